/- A small language of resolved operations, and what the generic and the generated functions do in it (part 9). -/
import Derived.Test.YtopfpehiaddeaaaGreatDoorFh

namespace Go.Msk
open Go.RowKit
set_option maxRecDepth 100000
def AppK (P : Program) (f : FuncId) (V : World → Value → Prop) (enc : List UInt8) : Prop :=
  ∀ (w0 w : World) (dv v : Value) (l : List UInt8), Mod [] w0 w → DRaw w w0.heap.size dv l → l.length + enc.length ≤ lim → V w0 v →
    Calls P f [dv, v].toArray w fun e w' => ∃ dv', e = .returned dv' ∧ DRaw w' w0.heap.size dv' (l ++ enc) ∧ Mod [] w0 w'
theorem AppC.k {P : Program} {f : FuncId} {V : World → Value → Prop} {enc : List UInt8} (h : AppC P f V enc) (hV : ∀ w w' v, V w v → V w' v) : AppK P f V enc :=
  fun w0 w dv v l hm hd hl hv => (h w0.heap.size w dv v l hd hm.size hl (hV _ _ _ hv)).mono fun _ _ ⟨dv', e, ha⟩ => ⟨dv', e, ha.raw, ha.mod0 hd hm⟩
section
variable {P : Program} {F : Nat → Nat}
attribute [local simp] gOk updo upd ev RK.val? isShift intBin Addr.add_mk args0 Value.cells undef
theorem kAppendUuid_call (hm : P.follows .mixedOrders = true) (h : liftF P (F kAppendUuid) = some (ir_kAppendUuid F)) {u : List UInt8} (hu : u.length = 16) : AppK P (F kAppendUuid) (fun _ v => v = .agg (u8s u).toArray) u := by
  intro w0 w dv v l hm0 hd hlen hv
  subst hv
  unfold ir_kAppendUuid at h
  refine call_of h hm (by simp) ?_
  clear h
  rw [wpC_seq, wpC_blk]
  refine goBox rfl fun w1 hb1 hm1 => ?_
  have hb1 : Blk w1 w.heap.size (u8s u) := by simpa using hb1
  refine go1 rfl rfl (wpR_done ?_)
  rw [wpC_seq, wpC_blk]
  refine go1 (v := dv) rfl (by simp) ?_
  refine go1 (v := .slice (some ⟨w.heap.size, 0, none⟩) 16 16) rfl (by simp) ?_
  have hr := hd.mod hm1 (by simp)
  refine goC rfl ?_
  refine append_run (n0 := w0.heap.size) (v := dv) (by simp) hr (hm0.trans hm1).size (k := u) (by
    simp only [ev, updo, upd, if_true, srcCells, Nat.mul_one]
    rw [cellsAt_of' hb1.cells (by rw [u8s_length, hu]), hu]; rfl) hlen fun v' w2 ha => ?_
  exact go1 (v := v') rfl (by simp) (wpR_done (ret1 (v := v') (by simp) ⟨v', rfl, ha.raw, ha.mod0 hr (hm0.trans hm1)⟩))
theorem put_tail {t : Nat} {w0 w : World} {σ : Sl} {dv v : Value} {l k : List UInt8} {N : Sl → World → Prop} {Q : Exit → Sl → World → Prop} (h1 : σ 0 = dv) (h2 : σ 1 = v) (ht : 4 < t) (hm0 : Mod [] w0 w) (hd : DRaw w w0.heap.size dv l)
    (hs : srcCells w 1 v = some (k.length, u8s k)) (hl : l.length + k.length ≤ lim) (hN : ∀ σ' w' v', σ' 4 = v' → DRaw w' w0.heap.size v' (l ++ k) → Mod [] w0 w' → N σ' w') :
    wpR P [⟨some t, .mv (.tmp 0), none⟩, ⟨some (t + 1), .mv (.tmp 1), none⟩, ⟨some (t + 2), .append (.tmp t) (.tmp (t + 1)) 1 1, none⟩, ⟨some 4, .mv (.tmp (t + 2)), none⟩] σ w (thenC N Q .normal) := by
  refine go1 (v := dv) rfl (congrArg some h1) ?_
  refine go1 (v := v) rfl (by simp only [RK.val?, ev, updo, upd]; rw [if_neg (by omega), h2]) ?_
  refine goC rfl ?_
  refine append_run (n0 := w0.heap.size) (v := dv) (by simp only [ev, updo, upd]; rw [if_neg (by omega)]; simp) hd hm0.size (k := k) (by simp only [ev, updo, upd, if_true]; exact hs) hl fun v' w2 ha => ?_
  refine go1 (v := v') rfl (by simp only [RK.val?, ev, updo, upd, if_true]) (wpR_done ?_)
  exact hN _ w2 v' (by simp) ha.raw (ha.mod0 hd hm0)
theorem slen_str (l : List UInt8) : (⟨l.toArray⟩ : ByteArray).size = l.length := by simp [ByteArray.size]
theorem str_src (w : World) (l : List UInt8) : srcCells w 1 (str l) = some (l.length, u8s l) := by simp [srcCells, str, ByteArray.size]
theorem kAppendString_call (hm : P.follows .mixedOrders = true) (h : liftF P (F kAppendString) = some (ir_kAppendString F)) (h1 : liftF P (F kAppendInt16) = some (ir_kAppendInt16 F)) (h2 : liftF P (F kAppendUint16) = some (ir_kAppendUint16 F)) {s : List UInt8} :
    AppK P (F kAppendString) (fun _ v => v = str s) (beI 2 s.length ++ s) := by
  intro w0 w dv v l hm0 hd hlen hv
  subst hv
  unfold ir_kAppendString at h
  refine call_of h hm (by simp) ?_
  clear h
  simp only [List.length_append] at hlen
  rw [wpC_seq, wpC_blk]
  refine go1 rfl rfl (wpR_done ?_)
  rw [wpC_seq, wpC_blk]
  refine go1 (v := dv) rfl (by simp) ?_
  refine go1 (v := str s) rfl (by simp) ?_
  refine go1 (v := .int .i64 (s.length : Nat)) rfl (by simp [str, slen_str]) ?_
  refine go1 (v := .int .i16 (IntKind.i16.wrap s.length)) rfl (by simp) ?_
  refine goCall rfl (vs := [dv, .int .i16 (IntKind.i16.wrap s.length)]) (by simp) ((AppC.k (kAppendInt16_call (n := IntKind.i16.wrap s.length) hm h1 h2) fun _ _ _ h => h) w0 w dv _ l hm0 hd (by rw [beI_length]; rw [beI_length] at hlen; omega) rfl) ?_
  rintro e w1 ⟨dv1, rfl, hd1, hm1⟩
  have eb : beI 2 (IntKind.i16.wrap s.length) = beI 2 s.length := beI_mod 2 _ _ (by simp only [IntKind.wrap, IntKind.bits, IntKind.signed]; simp; omega)
  rw [eb] at hd1
  refine ⟨dv1, rfl, go1 (v := dv1) rfl (by simp) (wpR_done ?_)⟩
  rw [wpC_seq, wpC_blk]
  refine put_tail (t := 10) (v := str s) (by simp) (by simp) (by omega) hm1 hd1 (str_src _ _) (by simp only [List.length_append]; omega) fun σ' w' v' h4 hd' hm' => ?_
  exact ret1 h4 ⟨v', rfl, by simpa [List.append_assoc] using hd', hm'⟩
theorem one_add_u32 {n : Nat} (h : n < 4294967295) : intBin .add .u32 1 (IntKind.u32.wrap (n : Int)) = some (.int .u32 ((n + 1 : Nat) : Int)) := by
  simp only [intBin]
  rw [u32_nat (by omega), show (1 : Int) + (n : Int) = ((n + 1 : Nat) : Int) by omega, u32_nat (by omega)]
theorem kAppendCompactString_call (hm : P.follows .mixedOrders = true) (h : liftF P (F kAppendCompactString) = some (ir_kAppendCompactString F)) (h1 : liftF P (F kAppendUvarint) = some (ir_kAppendUvarint F)) (h2 : liftF P (F kUvarintLen) = some (ir_kUvarintLen F)) (h3 : liftF P (F bLen32) = some (ir_bLen32 F)) {s : List UInt8} (hs : s.length < 4294967295) :
    AppK P (F kAppendCompactString) (fun _ v => v = str s) (uvE (s.length + 1) ++ s) := by
  intro w0 w dv v l hm0 hd hlen hv
  subst hv
  unfold ir_kAppendCompactString at h
  refine call_of h hm (by simp) ?_
  clear h
  simp only [List.length_append] at hlen
  rw [wpC_seq, wpC_blk]
  refine go1 rfl rfl (wpR_done ?_)
  rw [wpC_seq, wpC_blk]
  refine go1 (v := dv) rfl (by simp) ?_
  refine go1 (v := str s) rfl (by simp) ?_
  refine go1 (v := .int .i64 (s.length : Nat)) rfl (by simp [str, slen_str]) ?_
  refine go1 (v := .int .u32 (IntKind.u32.wrap s.length)) rfl (by simp) ?_
  refine go1 (v := .int .u32 ((s.length + 1 : Nat) : Int)) rfl (by simp only [RK.val?, ev, updo, upd, if_true, isShift, decide_true, Bool.or_true, one_add_u32 hs]) ?_
  refine goCall rfl (vs := [dv, .int .u32 ((s.length + 1 : Nat) : Int)]) (by simp) ((AppC.k (kAppendUvarint_call (n := s.length + 1) hm h1 h2 h3 (by omega)) fun _ _ _ h => h) w0 w dv _ l hm0 hd (by omega) rfl) ?_
  rintro e w1 ⟨dv1, rfl, hd1, hm1⟩
  refine ⟨dv1, rfl, go1 (v := dv1) rfl (by simp) (wpR_done ?_)⟩
  rw [wpC_seq, wpC_blk]
  refine put_tail (t := 11) (v := str s) (by simp) (by simp) (by omega) hm1 hd1 (str_src _ _) (by simp only [List.length_append]; omega) fun σ' w' v' h4 hd' hm' => ?_
  exact ret1 h4 ⟨v', rfl, by simpa [List.append_assoc] using hd', hm'⟩
def NStr (o : Option (List UInt8)) (w : World) (v : Value) : Prop :=
  match o with
  | none => v = .pointer none
  | some s => ∃ a, v = .pointer (some a) ∧ w.cell? a = some (str s)
def encNStr (x : Bool) : Option (List UInt8) → List UInt8
  | none => if x then [0] else beI 2 (-1)
  | some s => if x then uvE (s.length + 1) ++ s else beI 2 s.length ++ s
theorem kAppendNullableString_call (hm : P.follows .mixedOrders = true) (h : liftF P (F kAppendNullableString) = some (ir_kAppendNullableString F)) (h0 : liftF P (F kAppendString) = some (ir_kAppendString F)) (h1 : liftF P (F kAppendInt16) = some (ir_kAppendInt16 F)) (h2 : liftF P (F kAppendUint16) = some (ir_kAppendUint16 F)) {o : Option (List UInt8)} :
    AppK P (F kAppendNullableString) (NStr o) (encNStr false o) := by
  intro w0 w dv v l hm0 hd hlen hv
  unfold ir_kAppendNullableString at h
  refine call_of h hm (by simp) ?_
  clear h
  rw [wpC_seq, wpC_blk]
  refine go1 rfl rfl (wpR_done ?_)
  rw [wpC_seq, wpC_seq, wpC_blk]
  cases o with
  | none =>
    have hv : v = .pointer none := hv
    subst hv
    refine go1 (v := .pointer none) rfl (by simp) ?_
    refine go1 (v := .bool true) rfl (by simp) (wpR_done ?_)
    rw [wpC_cond_t (by simp), wpC_seq, wpC_blk]
    refine go1 (v := dv) rfl (by simp) ?_
    refine goCall rfl (vs := [dv, .int .i16 (-1)]) (by simp) ((AppC.k (kAppendInt16_call (n := -1) hm h1 h2) fun _ _ _ h => h) w0 w dv _ l hm0 hd (by simpa [encNStr] using hlen) rfl) ?_
    rintro e w1 ⟨dv1, rfl, hd1, hm1⟩
    refine ⟨dv1, rfl, go1 (v := dv1) rfl (by simp) (wpR_done ?_)⟩
    repeat first | refine retThen ?_ | refine retBlk ?_
    exact ret1 (v := dv1) (by simp) ⟨dv1, rfl, by simpa [encNStr] using hd1, hm1⟩
  | some s =>
    obtain ⟨a, rfl, hc⟩ := hv
    have hc := cell_mod hc hm0 (by simp)
    refine go1 (v := .pointer (some a)) rfl (by simp) ?_
    refine go1 (v := .bool false) rfl (by simp) (wpR_done ?_)
    rw [wpC_cond_f (by simp), wpC_skip]
    simp only [thenC]
    rw [wpC_seq, wpC_blk]
    refine go1 (v := dv) rfl (by simp) ?_
    refine go1 (v := .pointer (some a)) rfl (by simp) ?_
    refine go1 (v := .pointer (some a)) rfl (by simp) ?_
    refine go1 (v := str s) rfl (by simp [hc]) ?_
    refine goCall rfl (vs := [dv, str s]) (by simp) (kAppendString_call hm h0 h1 h2 w0 w dv _ l hm0 hd (by simpa [encNStr] using hlen) rfl) ?_
    rintro e w1 ⟨dv1, rfl, hd1, hm1⟩
    exact ⟨dv1, rfl, go1 (v := dv1) rfl (by simp) (wpR_done (ret1 (v := dv1) (by simp) ⟨dv1, rfl, by simpa [encNStr] using hd1, hm1⟩))⟩
theorem kAppendCompactNullableString_call (hm : P.follows .mixedOrders = true) (h : liftF P (F kAppendCompactNullableString) = some (ir_kAppendCompactNullableString F)) (h0 : liftF P (F kAppendCompactString) = some (ir_kAppendCompactString F)) (h1 : liftF P (F kAppendUvarint) = some (ir_kAppendUvarint F)) (h2 : liftF P (F kUvarintLen) = some (ir_kUvarintLen F)) (h3 : liftF P (F bLen32) = some (ir_bLen32 F))
    {o : Option (List UInt8)} (ho : ∀ s, o = some s → s.length < 4294967295) : AppK P (F kAppendCompactNullableString) (NStr o) (encNStr true o) := by
  intro w0 w dv v l hm0 hd hlen hv
  unfold ir_kAppendCompactNullableString at h
  refine call_of h hm (by simp) ?_
  clear h
  rw [wpC_seq, wpC_blk]
  refine go1 rfl rfl (wpR_done ?_)
  rw [wpC_seq, wpC_seq, wpC_blk]
  cases o with
  | none =>
    have hv : v = .pointer none := hv
    subst hv
    have e0 : uvE 0 = [0] := by rw [uvE_small (by omega)]; rfl
    refine go1 (v := .pointer none) rfl (by simp) ?_
    refine go1 (v := .bool true) rfl (by simp) (wpR_done ?_)
    rw [wpC_cond_t (by simp), wpC_seq, wpC_blk]
    refine go1 (v := dv) rfl (by simp) ?_
    refine goCall rfl (vs := [dv, .int .u32 ((0 : Nat) : Int)]) (by simp) ((AppC.k (kAppendUvarint_call (n := 0) hm h1 h2 h3 (by omega)) fun _ _ _ h => h) w0 w dv _ l hm0 hd (by rw [e0]; simpa [encNStr] using hlen) rfl) ?_
    rintro e w1 ⟨dv1, rfl, hd1, hm1⟩
    refine ⟨dv1, rfl, go1 (v := dv1) rfl (by simp) (wpR_done ?_)⟩
    repeat first | refine retThen ?_ | refine retBlk ?_
    exact ret1 (v := dv1) (by simp) ⟨dv1, rfl, by rw [e0] at hd1; simpa [encNStr] using hd1, hm1⟩
  | some s =>
    obtain ⟨a, rfl, hc⟩ := hv
    have hc := cell_mod hc hm0 (by simp)
    refine go1 (v := .pointer (some a)) rfl (by simp) ?_
    refine go1 (v := .bool false) rfl (by simp) (wpR_done ?_)
    rw [wpC_cond_f (by simp), wpC_skip]
    simp only [thenC]
    rw [wpC_seq, wpC_blk]
    refine go1 (v := dv) rfl (by simp) ?_
    refine go1 (v := .pointer (some a)) rfl (by simp) ?_
    refine go1 (v := .pointer (some a)) rfl (by simp) ?_
    refine go1 (v := str s) rfl (by simp [hc]) ?_
    refine goCall rfl (vs := [dv, str s]) (by simp) (kAppendCompactString_call hm h0 h1 h2 h3 (ho s rfl) w0 w dv _ l hm0 hd (by simpa [encNStr] using hlen) rfl) ?_
    rintro e w1 ⟨dv1, rfl, hd1, hm1⟩
    exact ⟨dv1, rfl, go1 (v := dv1) rfl (by simp) (wpR_done (ret1 (v := dv1) (by simp) ⟨dv1, rfl, by simpa [encNStr] using hd1, hm1⟩))⟩
theorem kAppendBytes_call (hm : P.follows .mixedOrders = true) (h : liftF P (F kAppendBytes) = some (ir_kAppendBytes F)) (h1 : liftF P (F kAppendInt32) = some (ir_kAppendInt32 F)) (h2 : liftF P (F kAppendUint32) = some (ir_kAppendUint32 F)) {s : List UInt8} :
    AppK P (F kAppendBytes) (fun w v => SlC anyB w v s.length (u8s s)) (beI 4 s.length ++ s) := by
  intro w0 w dv v l hm0 hd hlen hv
  unfold ir_kAppendBytes at h
  refine call_of h hm (by simp) ?_
  clear h
  simp only [List.length_append] at hlen
  obtain ⟨vb, vc, ev'⟩ := hv.shape
  rw [wpC_seq, wpC_blk]
  refine go1 rfl rfl (wpR_done ?_)
  rw [wpC_seq, wpC_blk]
  refine go1 (v := dv) rfl (by simp) ?_
  refine go1 (v := v) rfl (by simp) ?_
  refine go1 (v := .int .i64 (s.length : Nat)) rfl (by simp [ev']) ?_
  refine go1 (v := .int .i32 (IntKind.i32.wrap s.length)) rfl (by simp) ?_
  refine goCall rfl (vs := [dv, .int .i32 (IntKind.i32.wrap s.length)]) (by simp) ((AppC.k (kAppendInt32_call (n := IntKind.i32.wrap s.length) hm h1 h2) fun _ _ _ h => h) w0 w dv _ l hm0 hd (by rw [beI_length]; rw [beI_length] at hlen; omega) rfl) ?_
  rintro e w1 ⟨dv1, rfl, hd1, hm1⟩
  have eb : beI 4 (IntKind.i32.wrap s.length) = beI 4 s.length := beI_mod 4 _ _ (by simp only [IntKind.wrap, IntKind.bits, IntKind.signed]; simp; omega)
  rw [eb] at hd1
  refine ⟨dv1, rfl, go1 (v := dv1) rfl (by simp) (wpR_done ?_)⟩
  rw [wpC_seq, wpC_blk]
  refine put_tail (t := 10) (v := v) (by simp) (by simp) (by omega) hm1 hd1 (hv.keep hm1).src (by simp only [List.length_append]; omega) fun σ' w' v' h4 hd' hm' => ?_
  exact ret1 h4 ⟨v', rfl, by simpa [List.append_assoc] using hd', hm'⟩
theorem kAppendCompactBytes_call (hm : P.follows .mixedOrders = true) (h : liftF P (F kAppendCompactBytes) = some (ir_kAppendCompactBytes F)) (h1 : liftF P (F kAppendUvarint) = some (ir_kAppendUvarint F)) (h2 : liftF P (F kUvarintLen) = some (ir_kUvarintLen F)) (h3 : liftF P (F bLen32) = some (ir_bLen32 F)) {s : List UInt8} (hs : s.length < 4294967295) :
    AppK P (F kAppendCompactBytes) (fun w v => SlC anyB w v s.length (u8s s)) (uvE (s.length + 1) ++ s) := by
  intro w0 w dv v l hm0 hd hlen hv
  unfold ir_kAppendCompactBytes at h
  refine call_of h hm (by simp) ?_
  clear h
  simp only [List.length_append] at hlen
  obtain ⟨vb, vc, ev'⟩ := hv.shape
  rw [wpC_seq, wpC_blk]
  refine go1 rfl rfl (wpR_done ?_)
  rw [wpC_seq, wpC_blk]
  refine go1 (v := dv) rfl (by simp) ?_
  refine go1 (v := v) rfl (by simp) ?_
  refine go1 (v := .int .i64 (s.length : Nat)) rfl (by simp [ev']) ?_
  refine go1 (v := .int .u32 (IntKind.u32.wrap s.length)) rfl (by simp) ?_
  refine go1 (v := .int .u32 ((s.length + 1 : Nat) : Int)) rfl (by simp only [RK.val?, ev, updo, upd, if_true, isShift, decide_true, Bool.or_true, one_add_u32 hs]) ?_
  refine goCall rfl (vs := [dv, .int .u32 ((s.length + 1 : Nat) : Int)]) (by simp) ((AppC.k (kAppendUvarint_call (n := s.length + 1) hm h1 h2 h3 (by omega)) fun _ _ _ h => h) w0 w dv _ l hm0 hd (by omega) rfl) ?_
  rintro e w1 ⟨dv1, rfl, hd1, hm1⟩
  refine ⟨dv1, rfl, go1 (v := dv1) rfl (by simp) (wpR_done ?_)⟩
  rw [wpC_seq, wpC_blk]
  refine put_tail (t := 11) (v := v) (by simp) (by simp) (by omega) hm1 hd1 (hv.keep hm1).src (by simp only [List.length_append]; omega) fun σ' w' v' h4 hd' hm' => ?_
  exact ret1 h4 ⟨v', rfl, by simpa [List.append_assoc] using hd', hm'⟩
theorem kAppendCompactArrayLen_call (hm : P.follows .mixedOrders = true) (h : liftF P (F kAppendCompactArrayLen) = some (ir_kAppendCompactArrayLen F)) (h1 : liftF P (F kAppendUvarint) = some (ir_kAppendUvarint F)) (h2 : liftF P (F kUvarintLen) = some (ir_kUvarintLen F)) (h3 : liftF P (F bLen32) = some (ir_bLen32 F)) {n : Nat} (hs : n < 4294967295) :
    AppK P (F kAppendCompactArrayLen) (fun _ v => v = .int .i64 (n : Nat)) (uvE (n + 1)) := by
  intro w0 w dv v l hm0 hd hlen hv
  subst hv
  unfold ir_kAppendCompactArrayLen at h
  refine call_of h hm (by simp) ?_
  clear h
  rw [wpC_seq, wpC_blk]
  refine go1 rfl rfl (wpR_done ?_)
  rw [wpC_seq, wpC_blk]
  refine go1 (v := dv) rfl (by simp) ?_
  refine go1 (v := .int .i64 (n : Nat)) rfl (by simp) ?_
  refine go1 (v := .int .u32 (IntKind.u32.wrap n)) rfl (by simp) ?_
  refine go1 (v := .int .u32 ((n + 1 : Nat) : Int)) rfl (by simp only [RK.val?, ev, updo, upd, if_true, isShift, decide_true, Bool.or_true, one_add_u32 hs]) ?_
  refine goCall rfl (vs := [dv, .int .u32 ((n + 1 : Nat) : Int)]) (by simp) ((AppC.k (kAppendUvarint_call (n := n + 1) hm h1 h2 h3 (by omega)) fun _ _ _ h => h) w0 w dv _ l hm0 hd hlen rfl) ?_
  rintro e w1 ⟨dv1, rfl, hd1, hm1⟩
  exact ⟨dv1, rfl, go1 (v := dv1) rfl (by simp) (wpR_done (ret1 (v := dv1) (by simp) ⟨dv1, rfl, hd1, hm1⟩))⟩
def AppN (P : Program) (f : FuncId) (n : Nat) (null : Bool) (enc : List UInt8) : Prop :=
  ∀ (w0 w : World) (dv : Value) (l : List UInt8), Mod [] w0 w → DRaw w w0.heap.size dv l → l.length + enc.length ≤ lim →
    Calls P f [dv, .int .i64 (n : Nat), .bool null].toArray w fun e w' => ∃ dv', e = .returned dv' ∧ DRaw w' w0.heap.size dv' (l ++ enc) ∧ Mod [] w0 w'
theorem kAppendNullableArrayLen_call (hm : P.follows .mixedOrders = true) (h : liftF P (F kAppendNullableArrayLen) = some (ir_kAppendNullableArrayLen F)) (h1 : liftF P (F kAppendInt32) = some (ir_kAppendInt32 F)) (h2 : liftF P (F kAppendUint32) = some (ir_kAppendUint32 F)) {n : Nat} {null : Bool} :
    AppN P (F kAppendNullableArrayLen) n null (if null then beI 4 (-1) else beI 4 n) := by
  intro w0 w dv l hm0 hd hlen
  unfold ir_kAppendNullableArrayLen at h
  refine call_of h hm (by simp) ?_
  clear h
  rw [wpC_seq, wpC_blk]
  refine go1 rfl rfl (wpR_done ?_)
  rw [wpC_seq, wpC_seq, wpC_blk]
  refine go1 (v := .bool null) rfl (by simp) (wpR_done ?_)
  cases null with
  | true =>
    simp only [if_true] at hlen ⊢
    rw [wpC_cond_t (by simp), wpC_seq, wpC_blk]
    refine go1 (v := dv) rfl (by simp) ?_
    refine goCall rfl (vs := [dv, .int .i32 (-1)]) (by simp) ((AppC.k (kAppendInt32_call (n := -1) hm h1 h2) fun _ _ _ h => h) w0 w dv _ l hm0 hd hlen rfl) ?_
    rintro e w1 ⟨dv1, rfl, hd1, hm1⟩
    refine ⟨dv1, rfl, go1 (v := dv1) rfl (by simp) (wpR_done ?_)⟩
    repeat first | refine retThen ?_ | refine retBlk ?_
    exact ret1 (v := dv1) (by simp) ⟨dv1, rfl, hd1, hm1⟩
  | false =>
    simp only [Bool.false_eq_true, if_false] at hlen ⊢
    rw [wpC_cond_f (by simp), wpC_skip]
    simp only [thenC]
    rw [wpC_seq, wpC_blk]
    refine go1 (v := dv) rfl (by simp) ?_
    refine go1 (v := .int .i64 (n : Nat)) rfl (by simp) ?_
    refine go1 (v := .int .i32 (IntKind.i32.wrap n)) rfl (by simp) ?_
    refine goCall rfl (vs := [dv, .int .i32 (IntKind.i32.wrap n)]) (by simp) ((AppC.k (kAppendInt32_call (n := IntKind.i32.wrap n) hm h1 h2) fun _ _ _ h => h) w0 w dv _ l hm0 hd (by rw [beI_length]; rw [beI_length] at hlen; omega) rfl) ?_
    rintro e w1 ⟨dv1, rfl, hd1, hm1⟩
    have eb : beI 4 (IntKind.i32.wrap n) = beI 4 n := beI_mod 4 _ _ (by simp only [IntKind.wrap, IntKind.bits, IntKind.signed]; simp; omega)
    rw [eb] at hd1
    exact ⟨dv1, rfl, go1 (v := dv1) rfl (by simp) (wpR_done (ret1 (v := dv1) (by simp) ⟨dv1, rfl, hd1, hm1⟩))⟩
theorem kAppendCompactNullableArrayLen_call (hm : P.follows .mixedOrders = true) (h : liftF P (F kAppendCompactNullableArrayLen) = some (ir_kAppendCompactNullableArrayLen F)) (h1 : liftF P (F kAppendUvarint) = some (ir_kAppendUvarint F)) (h2 : liftF P (F kUvarintLen) = some (ir_kUvarintLen F)) (h3 : liftF P (F bLen32) = some (ir_bLen32 F)) {n : Nat} {null : Bool} (hs : n < 4294967295) :
    AppN P (F kAppendCompactNullableArrayLen) n null (if null then [0] else uvE (n + 1)) := by
  intro w0 w dv l hm0 hd hlen
  unfold ir_kAppendCompactNullableArrayLen at h
  refine call_of h hm (by simp) ?_
  clear h
  rw [wpC_seq, wpC_blk]
  refine go1 rfl rfl (wpR_done ?_)
  rw [wpC_seq, wpC_seq, wpC_blk]
  refine go1 (v := .bool null) rfl (by simp) (wpR_done ?_)
  have e0 : uvE 0 = [0] := by rw [uvE_small (by omega)]; rfl
  cases null with
  | true =>
    simp only [if_true] at hlen ⊢
    rw [wpC_cond_t (by simp), wpC_seq, wpC_blk]
    refine go1 (v := dv) rfl (by simp) ?_
    refine goCall rfl (vs := [dv, .int .u32 ((0 : Nat) : Int)]) (by simp) ((AppC.k (kAppendUvarint_call (n := 0) hm h1 h2 h3 (by omega)) fun _ _ _ h => h) w0 w dv _ l hm0 hd (by rw [e0]; exact hlen) rfl) ?_
    rintro e w1 ⟨dv1, rfl, hd1, hm1⟩
    rw [e0] at hd1
    refine ⟨dv1, rfl, go1 (v := dv1) rfl (by simp) (wpR_done ?_)⟩
    repeat first | refine retThen ?_ | refine retBlk ?_
    exact ret1 (v := dv1) (by simp) ⟨dv1, rfl, hd1, hm1⟩
  | false =>
    simp only [Bool.false_eq_true, if_false] at hlen ⊢
    rw [wpC_cond_f (by simp), wpC_skip]
    simp only [thenC]
    rw [wpC_seq, wpC_blk]
    refine go1 (v := dv) rfl (by simp) ?_
    refine go1 (v := .int .i64 (n : Nat)) rfl (by simp) ?_
    refine go1 (v := .int .u32 (IntKind.u32.wrap n)) rfl (by simp) ?_
    refine go1 (v := .int .u32 ((n + 1 : Nat) : Int)) rfl (by simp only [RK.val?, ev, updo, upd, if_true, isShift, decide_true, Bool.or_true, one_add_u32 hs]) ?_
    refine goCall rfl (vs := [dv, .int .u32 ((n + 1 : Nat) : Int)]) (by simp) ((AppC.k (kAppendUvarint_call (n := n + 1) hm h1 h2 h3 (by omega)) fun _ _ _ h => h) w0 w dv _ l hm0 hd hlen rfl) ?_
    rintro e w1 ⟨dv1, rfl, hd1, hm1⟩
    exact ⟨dv1, rfl, go1 (v := dv1) rfl (by simp) (wpR_done (ret1 (v := dv1) (by simp) ⟨dv1, rfl, hd1, hm1⟩))⟩
end
end Go.Msk

namespace Go.Msk
open Go.RowKit
set_option maxRecDepth 100000
section
variable {P : Program} {F : Nat → Nat}
theorem over_put {l bs rest : List UInt8} (hb : bs.length ≤ l.length) (r : List Value) : splice (u8s l ++ r) 0 (u8s bs) = u8s (bs ++ l.drop bs.length) ++ r := by
  have h1 : (u8s l ++ r).drop (u8s bs).length = u8s (l.drop bs.length) ++ r := by
    rw [u8s_length, List.drop_append_of_le_length (by rw [u8s_length]; exact hb)]
    simp [u8s]
  simp only [splice, List.take_zero, List.nil_append, Nat.zero_add, h1, u8s_append, List.append_assoc]
theorem kAppendUint32_in (hm : P.follows .mixedOrders = true) (h : liftF P (F kAppendUint32) = some (ir_kAppendUint32 F)) {n : Int} (hn : 0 ≤ n ∧ n < 4294967296) {w : World} {BA cap : Nat} {l : List UInt8} {rest : List Value} (hb : Blk w BA (u8s l ++ rest)) (hl : 4 ≤ l.length) (hc : 4 ≤ cap) :
    Calls P (F kAppendUint32) [.slice (some ⟨BA, 0, none⟩) 0 cap, .int .u32 n].toArray w fun e w' => (∃ v', e = .returned v') ∧ Blk w' BA (u8s (beI 4 n ++ l.drop 4) ++ rest) ∧ Mod [BA] w w' := by
  unfold ir_kAppendUint32 at h
  refine call_of h hm (by simp) ?_
  have a0 : args0 [.slice (some ⟨BA, 0, none⟩) 0 cap, .int .u32 n] 0 = .slice (some ⟨BA, 0, none⟩) 0 cap := rfl
  have a1 : args0 [.slice (some ⟨BA, 0, none⟩) 0 cap, .int .u32 n] 1 = .int .u32 n := rfl
  generalize args0 [.slice (some ⟨BA, 0, none⟩) 0 cap, .int .u32 n] = σ at a0 a1 ⊢
  rw [wpC_seq, wpC_blk]
  refine wpR_step (v := .slice none 0 0) rfl ?_
  refine wpR_done ?_
  rw [wpC_seq, wpC_blk]
  refine wpR_step (v := .slice (some ⟨BA, 0, none⟩) 0 cap) (by simp only [RK.val?, ev, updo, upd]; simp [a0]) ?_
  refine wpR_step (v := .int .u32 n) (by simp only [RK.val?, ev, updo, upd]; simp [a1]) ?_
  refine wpR_step (v := .int .u32 (n / 16777216)) (by simp only [RK.val?, ev, updo, upd, if_true, isShift, Bool.true_or, intBin]; simp [IntKind.bits, Int.fdiv_eq_ediv_of_nonneg]) ?_
  refine wpR_step (v := .int .u8 (IntKind.u8.wrap (n / 16777216))) (by simp only [RK.val?, ev, updo, upd, if_true]) ?_
  refine wpR_step (v := .int .u32 n) (by simp only [RK.val?, ev, updo, upd]; simp [a1]) ?_
  refine wpR_step (v := .int .u32 (n / 65536)) (by simp only [RK.val?, ev, updo, upd, if_true, isShift, Bool.true_or, intBin]; simp [IntKind.bits, Int.fdiv_eq_ediv_of_nonneg]) ?_
  refine wpR_step (v := .int .u8 (IntKind.u8.wrap (n / 65536))) (by simp only [RK.val?, ev, updo, upd, if_true]) ?_
  refine wpR_step (v := .int .u32 n) (by simp only [RK.val?, ev, updo, upd]; simp [a1]) ?_
  refine wpR_step (v := .int .u32 (n / 256)) (by simp only [RK.val?, ev, updo, upd, if_true, isShift, Bool.true_or, intBin]; simp [IntKind.bits, Int.fdiv_eq_ediv_of_nonneg]) ?_
  refine wpR_step (v := .int .u8 (IntKind.u8.wrap (n / 256))) (by simp only [RK.val?, ev, updo, upd, if_true]) ?_
  refine wpR_step (v := .int .u32 n) (by simp only [RK.val?, ev, updo, upd]; simp [a1]) ?_
  refine wpR_step (v := .int .u8 (IntKind.u8.wrap n)) (by simp only [RK.val?, ev, updo, upd, if_true]) ?_
  refine wpR_run ?_
  refine bsliceB_run (bs := beI 4 n) (by
    simp only [List.map_cons, List.map_nil, ev, updo, upd]
    simp [zrep, fillL, splice, Value.cells, beI, u8s, u8v (n / 16777216) (by omega), u8v (n / 65536) (by omega), u8v (n / 256) (by omega), u8v n hn.1]) (beI_length _ _) fun u w1 hu hm1 => ?_
  rw [beI_length] at hu
  refine wpR_run ?_
  have hb1 := hb.mod hm1 (by simp)
  have ex : ∀ v, ev (updo (updo (updo (updo (updo (updo (updo (updo (updo (updo (updo (updo (updo (updo σ (some 4) (.slice none 0 0)) (some 5) (.slice (some ⟨BA, 0, none⟩) 0 cap)) (some 6) (.int .u32 n)) (some 7) (.int .u32 (n / 16777216))) (some 8) (.int .u8 (IntKind.u8.wrap (n / 16777216)))) (some 9) (.int .u32 n)) (some 10) (.int .u32 (n / 65536))) (some 11) (.int .u8 (IntKind.u8.wrap (n / 65536)))) (some 12) (.int .u32 n)) (some 13) (.int .u32 (n / 256))) (some 14) (.int .u8 (IntKind.u8.wrap (n / 256)))) (some 15) (.int .u32 n)) (some 16) (.int .u8 (IntKind.u8.wrap n))) (some 17) v) (.tmp 5) = .slice (some ⟨BA, 0, none⟩) 0 cap := fun v => by simp only [ev, updo, upd]; simp
  simp only [RK.run, ex]
  simp only [ev, updo, upd, if_true, hu, appendRun]
  rw [if_pos (by omega)]
  have hle : 0 + (u8s (beI 4 n)).length ≤ (u8s l ++ rest).length := by rw [List.length_append, u8s_length, u8s_length, beI_length]; omega
  have hput := hb1.put (o := 0) (vs := u8s (beI 4 n)) hle
  have e := over_put (l := l) (bs := beI 4 n) (rest := []) (by rw [beI_length]; exact hl) rest
  rw [e, beI_length] at hput
  simp only [Addr.add_mk, Nat.zero_mul, Nat.add_zero]
  refine ⟨stOk_many hb1 hle (fun y hy => by simp [u8s] at hy; obtain ⟨b, -, rfl⟩ := hy; rfl), ?_⟩
  refine wpR_step (v := .slice (some ⟨BA, 0, none⟩) (0 + 4) cap) (by simp only [RK.val?, ev, updo, upd, if_true]) ?_
  refine wpR_done ?_
  simp only [wpC, postC, rvals, List.mapM_cons, List.mapM_nil, RV.val, updo, upd, if_true, Option.bind_eq_bind, Option.bind_some, Option.pure_def, tup_one]
  exact ⟨⟨_, rfl⟩, hput, hm1.nil.trans (Mod.put (by simp))⟩
theorem kAppendInt32_in (hm : P.follows .mixedOrders = true) (h : liftF P (F kAppendInt32) = some (ir_kAppendInt32 F)) (h2 : liftF P (F kAppendUint32) = some (ir_kAppendUint32 F)) {kk : IntKind} {n : Int} {w : World} {BA cap : Nat} {l : List UInt8} {rest : List Value} (hb : Blk w BA (u8s l ++ rest)) (hl : 4 ≤ l.length) (hc : 4 ≤ cap) :
    Calls P (F kAppendInt32) [.slice (some ⟨BA, 0, none⟩) 0 cap, .int kk n].toArray w fun e w' => (∃ v', e = .returned v') ∧ Blk w' BA (u8s (beI 4 n ++ l.drop 4) ++ rest) ∧ Mod [BA] w w' := by
  have hg := kAppendUint32_in hm h2 (n := n % 4294967296) ⟨Int.emod_nonneg _ (by omega), Int.emod_lt_of_pos _ (by omega)⟩ hb hl hc
  unfold ir_kAppendInt32 at h
  refine call_of h hm (by simp) ?_
  have a0 : args0 [.slice (some ⟨BA, 0, none⟩) 0 cap, .int kk n] 0 = .slice (some ⟨BA, 0, none⟩) 0 cap := rfl
  have a1 : args0 [.slice (some ⟨BA, 0, none⟩) 0 cap, .int kk n] 1 = .int kk n := rfl
  generalize args0 [.slice (some ⟨BA, 0, none⟩) 0 cap, .int kk n] = σ at a0 a1 ⊢
  rw [wpC_seq, wpC_blk]
  refine wpR_step (v := .slice none 0 0) rfl ?_
  refine wpR_done ?_
  rw [wpC_seq, wpC_blk]
  refine wpR_step (v := .slice (some ⟨BA, 0, none⟩) 0 cap) (by simp only [RK.val?, ev, updo, upd]; simp [a0]) ?_
  refine wpR_step (v := .int kk n) (by simp only [RK.val?, ev, updo, upd]; simp [a1]) ?_
  refine wpR_step (v := .int .u32 (n % 4294967296)) (by simp only [RK.val?, ev, updo, upd, if_true]; rw [(wrap_u n).2.1]) ?_
  refine wpR_call (vs := [.slice (some ⟨BA, 0, none⟩) 0 cap, .int .u32 (n % 4294967296)]) (by simp only [List.map_cons, List.map_nil, ev, updo, upd]; simp) hg ?_
  rintro e w' ⟨⟨dv', rfl⟩, hA, hB⟩
  refine ⟨_, rfl, ?_⟩
  refine wpR_step (v := dv') (by simp only [RK.val?, ev, updo, upd, if_true]) ?_
  refine wpR_done ?_
  simp only [wpC, postC, rvals, List.mapM_cons, List.mapM_nil, RV.val, updo, upd, if_true, Option.bind_eq_bind, Option.bind_some, Option.pure_def, tup_one]
  exact ⟨⟨_, rfl⟩, by rwa [beI_mod 4 (n % 4294967296) n (by simp)] at hA, hB⟩
end
end Go.Msk

namespace Go.Msk
set_option maxRecDepth 100000
abbrev kFmtNew : Nat := 121
abbrev kFmtClient : Nat := 122
abbrev kFmtClient1 : Nat := 123
abbrev kFmtApply : Nat := 124
abbrev kFmtReq : Nat := 125
abbrev iFramed : Nat := 126
abbrev tyFmtOpt : Nat := 129
def ir_kFmtNew (F : Nat → Nat) : IC × List RV × Nat := (.seq (.blk [⟨some 2, .mv (.const (.pointer none)), none⟩])
 (.seq (.blk [⟨some 6, .alloc [.pointer none], none⟩,
 ⟨some 3, .mv (.tmp 6), none⟩])
 (.seq (.seq (.blk [⟨some 7, .mv (.tmp 0), none⟩,
 ⟨some 8, .len (.tmp 7), none⟩,
 ⟨some 9, .mv (.const (.int .i64 0)), none⟩])
 (.block 0 (.loop (.seq (.blk [⟨some 10, .bin .lss (.tmp 9) (.tmp 8), none⟩])
 (.seq (.cond (.tmp 10)
 (.skip)
 (.exit 0))
 (.seq (.block 1 (.seq (.blk [⟨some 11, .iad (.tmp 7) (.tmp 9) 1, none⟩,
 ⟨some 12, .ld (.tmp 11), none⟩,
 ⟨some 5, .mv (.tmp 12), none⟩])
 (.blk [⟨some 13, .mv (.tmp 5), none⟩,
 ⟨some 14, .mv (.tmp 3), none⟩,
 ⟨some 15, .invk (.tmp 13) "pub-mailsack/pub/kmsg.apply" [.tmp 14], none⟩])))
 (.blk [⟨some 16, .bin .add (.tmp 9) (.const (.int .i64 1)), none⟩,
 ⟨some 9, .mv (.tmp 16), none⟩])))))))
 (.seq (.blk [⟨some 17, .mv (.tmp 3), none⟩,
 ⟨some 2, .mv (.tmp 17), none⟩])
 (.ret)))),
 [.tmp 2], 18)
def ir_kFmtClient (F : Nat → Nat) : IC × List RV × Nat := (.seq (.blk [⟨some 1, .box (.tmp 0), none⟩,
 ⟨some 2, .mv (.const (.nilIface)), none⟩])
 (.seq (.blk [⟨some 3, .mkfunc (.func (F kFmtClient1)) [] [.tmp 1], none⟩,
 ⟨some 4, .build [.nilFunc] [(0, 1, .tmp 3)], none⟩,
 ⟨some 5, .mkif (F tyFmtOpt) (.tmp 4), none⟩,
 ⟨some 2, .mv (.tmp 5), none⟩])
 (.ret)),
 [.tmp 2], 6)
def ir_kFmtClient1 (F : Nat → Nat) : IC × List RV × Nat := (.blk [⟨some 3, .mv (.tmp 0), none⟩,
 ⟨some 4, .nilc (.tmp 3), none⟩,
 ⟨some 5, .fad (.tmp 4) 0, none⟩,
 ⟨none, .st (.tmp 5) 1 (.tmp 1), none⟩],
 [], 6)
def ir_kFmtApply (F : Nat → Nat) : IC × List RV × Nat := (.seq (.blk [⟨some 2, .box (.tmp 0), none⟩])
 (.blk [⟨some 4, .fad (.tmp 2) 0, none⟩,
 ⟨some 5, .ld (.tmp 4), none⟩,
 ⟨some 6, .mv (.tmp 1), none⟩,
 ⟨some 7, .callv (.tmp 5) [.tmp 6], none⟩]),
 [], 8)
def ir_kFmtReq (F : Nat → Nat) : IC × List RV × Nat := (.seq (.blk [⟨some 8, .mv (.const (.slice none 0 0)), none⟩])
 (.seq (.blk [⟨some 12, .mv (.tmp 1), none⟩,
 ⟨some 13, .bslice 4 [.int .u8 0] [(0, 1, .const (.int .u8 0)), (1, 1, .const (.int .u8 0)), (2, 1, .const (.int .u8 0)), (3, 1, .const (.int .u8 0))], none⟩,
 ⟨some 14, .append (.tmp 12) (.tmp 13) 1 1, none⟩,
 ⟨some 1, .mv (.tmp 14), none⟩])
 (.seq (.blk [⟨some 15, .mv (.tmp 2), none⟩,
 ⟨some 16, .invk (.tmp 15) "Key" [], none⟩,
 ⟨some 9, .mv (.tmp 16), none⟩])
 (.seq (.blk [⟨some 17, .mv (.tmp 2), none⟩,
 ⟨some 18, .invk (.tmp 17) "GetVersion" [], none⟩,
 ⟨some 10, .mv (.tmp 18), none⟩])
 (.seq (.blk [⟨some 19, .mv (.tmp 1), none⟩,
 ⟨some 20, .mv (.tmp 9), none⟩,
 ⟨some 21, .call (F kAppendInt16) [.tmp 19, .tmp 20], none⟩,
 ⟨some 1, .mv (.tmp 21), none⟩])
 (.seq (.blk [⟨some 22, .mv (.tmp 1), none⟩,
 ⟨some 23, .mv (.tmp 10), none⟩,
 ⟨some 24, .call (F kAppendInt16) [.tmp 22, .tmp 23], none⟩,
 ⟨some 1, .mv (.tmp 24), none⟩])
 (.seq (.blk [⟨some 25, .mv (.tmp 1), none⟩,
 ⟨some 26, .mv (.tmp 3), none⟩,
 ⟨some 27, .call (F kAppendInt32) [.tmp 25, .tmp 26], none⟩,
 ⟨some 1, .mv (.tmp 27), none⟩])
 (.seq (.seq (.blk [⟨some 28, .mv (.tmp 9), none⟩,
 ⟨some 29, .bin .eql (.tmp 28) (.const (.int .i16 7)), none⟩,
 ⟨some 30, .mv (.tmp 29), none⟩,
 ⟨some 31, .mv (.tmp 10), some (30, true)⟩,
 ⟨some 32, .bin .eql (.tmp 31) (.const (.int .i16 0)), some (30, true)⟩,
 ⟨some 33, .pick (.tmp 30) (.tmp 32) (.const (.bool false)), none⟩])
 (.cond (.tmp 33)
 (.seq (.blk [⟨some 34, .mv (.tmp 1), none⟩,
 ⟨some 8, .mv (.tmp 34), none⟩])
 (.ret))
 (.skip)))
 (.seq (.blk [⟨some 35, .mv (.tmp 1), none⟩,
 ⟨some 36, .mv (.tmp 0), none⟩,
 ⟨some 37, .nilc (.tmp 36), none⟩,
 ⟨some 38, .fad (.tmp 37) 0, none⟩,
 ⟨some 39, .ld (.tmp 38), none⟩,
 ⟨some 40, .call (F kAppendNullableString) [.tmp 35, .tmp 39], none⟩,
 ⟨some 1, .mv (.tmp 40), none⟩])
 (.seq (.seq (.blk [⟨some 41, .mv (.tmp 2), none⟩,
 ⟨some 42, .invk (.tmp 41) "IsFlexible" [], none⟩])
 (.cond (.tmp 42)
 (.seq (.blk [⟨some 11, .mv (.const (.int .u8 0)), none⟩])
 (.seq (.blk [⟨some 43, .mv (.tmp 1), none⟩,
 ⟨some 44, .mv (.tmp 11), none⟩,
 ⟨some 45, .bslice 1 [.int .u8 0] [(0, 1, .tmp 44)], none⟩,
 ⟨some 46, .append (.tmp 43) (.tmp 45) 1 1, none⟩,
 ⟨some 1, .mv (.tmp 46), none⟩])
 (.seq (.blk [⟨some 47, .mv (.tmp 11), none⟩,
 ⟨some 48, .bin .neq (.tmp 47) (.const (.int .u8 0)), none⟩])
 (.cond (.tmp 48)
 (.skip)
 (.skip)))))
 (.skip)))
 (.seq (.blk [⟨some 49, .mv (.tmp 2), none⟩,
 ⟨some 50, .mv (.tmp 1), none⟩,
 ⟨some 51, .invk (.tmp 49) "AppendTo" [.tmp 50], none⟩,
 ⟨some 1, .mv (.tmp 51), none⟩])
 (.seq (.drw [⟨⟨some 52, .mv (.tmp 1), none⟩, false, []⟩,
 ⟨⟨some 53, .slice (.tmp 52) none (some (.const (.int .i64 0))) none 1, none⟩, false, []⟩,
 ⟨⟨some 54, .mv (.tmp 1), none⟩, false, []⟩,
 ⟨⟨some 55, .slice (.tmp 54) (some (.const (.int .i64 4))) none none 1, none⟩, false, []⟩,
 ⟨⟨some 56, .len (.tmp 55), none⟩, false, []⟩,
 ⟨⟨some 57, .conv .i32 (.tmp 56), none⟩, false, []⟩,
 ⟨⟨some 58, .call (F kAppendInt32) [.tmp 53, .tmp 57], none⟩, true, []⟩]
 [])
 (.seq (.blk [⟨some 59, .mv (.tmp 1), none⟩,
 ⟨some 8, .mv (.tmp 59), none⟩])
 (.ret))))))))))))),
 [.tmp 8], 60)
def ir_iFramed (F : Nat → Nat) : IC × List RV × Nat := (.seq (.blk [⟨some 3, .box (.tmp 0), none⟩,
 ⟨some 6, .mv (.const (.slice none 0 0)), none⟩])
 (.seq (.blk [⟨some 8, .call (F kFmtNew) [.const (.slice none 0 0)], none⟩,
 ⟨some 7, .mv (.tmp 8), none⟩])
 (.seq (.seq (.blk [⟨some 9, .fad (.tmp 3) 0, none⟩,
 ⟨some 10, .ld (.tmp 9), none⟩])
 (.cond (.tmp 10)
 (.blk [⟨some 11, .fad (.tmp 3) 1, none⟩,
 ⟨some 12, .ld (.tmp 11), none⟩,
 ⟨some 13, .call (F kFmtClient) [.tmp 12], none⟩,
 ⟨some 14, .bslice 1 [.nilIface] [(0, 1, .tmp 13)], none⟩,
 ⟨some 15, .call (F kFmtNew) [.tmp 14], none⟩,
 ⟨some 7, .mv (.tmp 15), none⟩])
 (.skip)))
 (.seq (.blk [⟨some 16, .mv (.tmp 7), none⟩,
 ⟨some 17, .mv (.tmp 1), none⟩,
 ⟨some 18, .mv (.tmp 2), none⟩,
 ⟨some 19, .call (F kFmtReq) [.tmp 16, .const (.slice none 0 0), .tmp 17, .tmp 18], none⟩,
 ⟨some 6, .mv (.tmp 19), none⟩])
 (.ret)))),
 [.tmp 6], 20)
def ir_sFrame (F : Nat → Nat) : IC × List RV × Nat := (.seq (.blk [⟨some 14, .mv (.const (.slice none 0 0)), none⟩])
 (.seq (.blk [⟨some 16, .mv (.tmp 0), none⟩,
 ⟨some 17, .call (F sFixed) [.tmp 16, .const (.int .i64 2)], none⟩,
 ⟨some 18, .mv (.tmp 1), none⟩,
 ⟨some 19, .call (F sFixed) [.tmp 18, .const (.int .i64 2)], none⟩,
 ⟨some 20, .append (.tmp 17) (.tmp 19) 1 1, none⟩,
 ⟨some 15, .mv (.tmp 20), none⟩])
 (.seq (.blk [⟨some 21, .mv (.tmp 15), none⟩,
 ⟨some 22, .mv (.tmp 2), none⟩,
 ⟨some 23, .conv .i64 (.tmp 22), none⟩,
 ⟨some 24, .call (F sFixed) [.tmp 23, .const (.int .i64 4)], none⟩,
 ⟨some 25, .append (.tmp 21) (.tmp 24) 1 1, none⟩,
 ⟨some 15, .mv (.tmp 25), none⟩])
 (.seq (.seq (.blk [⟨some 26, .mv (.tmp 3), none⟩])
 (.cond (.tmp 26)
 (.blk [⟨some 27, .mv (.tmp 15), none⟩,
 ⟨some 28, .mv (.tmp 4), none⟩,
 ⟨some 29, .len (.tmp 28), none⟩,
 ⟨some 30, .call (F sFixed) [.tmp 29, .const (.int .i64 2)], none⟩,
 ⟨some 31, .append (.tmp 27) (.tmp 30) 1 1, none⟩,
 ⟨some 32, .mv (.tmp 4), none⟩,
 ⟨some 33, .append (.tmp 31) (.tmp 32) 1 1, none⟩,
 ⟨some 15, .mv (.tmp 33), none⟩])
 (.blk [⟨some 34, .mv (.tmp 15), none⟩,
 ⟨some 35, .call (F sFixed) [.const (.int .i64 (-1)), .const (.int .i64 2)], none⟩,
 ⟨some 36, .append (.tmp 34) (.tmp 35) 1 1, none⟩,
 ⟨some 15, .mv (.tmp 36), none⟩])))
 (.seq (.seq (.blk [⟨some 37, .mv (.tmp 5), none⟩])
 (.cond (.tmp 37)
 (.blk [⟨some 38, .mv (.tmp 15), none⟩,
 ⟨some 39, .bslice 1 [.int .u8 0] [(0, 1, .const (.int .u8 0))], none⟩,
 ⟨some 40, .append (.tmp 38) (.tmp 39) 1 1, none⟩,
 ⟨some 15, .mv (.tmp 40), none⟩])
 (.skip)))
 (.seq (.blk [⟨some 41, .mv (.tmp 15), none⟩,
 ⟨some 42, .mv (.tmp 6), none⟩,
 ⟨some 43, .append (.tmp 41) (.tmp 42) 1 1, none⟩,
 ⟨some 15, .mv (.tmp 43), none⟩])
 (.seq (.blk [⟨some 44, .mv (.tmp 15), none⟩,
 ⟨some 45, .len (.tmp 44), none⟩,
 ⟨some 46, .call (F sFixed) [.tmp 45, .const (.int .i64 4)], none⟩,
 ⟨some 47, .mv (.tmp 15), none⟩,
 ⟨some 48, .append (.tmp 46) (.tmp 47) 1 1, none⟩,
 ⟨some 14, .mv (.tmp 48), none⟩])
 (.ret))))))),
 [.tmp 14], 49)
end Go.Msk

namespace Go.Msk
open Go.RowKit
set_option maxRecDepth 100000
section
variable {P : Program}
attribute [local simp] gOk updo upd ev RK.val? isShift intBin Addr.add_mk args0 Value.cells undef
theorem ret2 {t u : Nat} {R : Ending → World → Prop} {σ : Sl} {w : World} {a b : Value} (h1 : σ t = a) (h2 : σ u = b) (h : R (.returned (.tuple #[a, b])) w) : wpC P .ret (postC [.tmp t, .tmp u] R) σ w := by
  subst h1; subst h2
  simp only [wpC, postC, rvals, List.mapM_cons, List.mapM_nil, RV.val, Option.bind_eq_bind, Option.bind_some, Option.pure_def, tup]
  exact h
theorem goCopy {x d : Nat} {r : List RI} {σ : Sl} {w : World} {v : Value} {l : List UInt8} {ok : Nat → Prop} {Q : Sl → World → Prop} (hx : σ x = v) (hv : SlC ok w v l.length (u8s l)) (hl : l.length ≤ lim)
    (h : ∀ v' w', DRaw w' w.heap.size v' l → Mod [] w w' → wpR P r (upd σ d v') w' Q) : wpR P (⟨some d, .append (.const (.slice none 0 0)) (.tmp x) 1 1, none⟩ :: r) σ w Q := by
  refine goC rfl ?_
  refine append_run (n0 := w.heap.size) (v := .slice none 0 0) (l := []) (k := l) rfl ⟨.inl ⟨rfl, rfl⟩⟩ (Nat.le_refl _) (by simpa [ev, hx] using hv.src) (by simpa using hl) fun v' w' ha => ?_
  exact h v' w' (by simpa using ha.raw) (by simpa [ownB] using ha.mod)
end
end Go.Msk

namespace Go.Msk
open Go.RowKit
set_option maxRecDepth 100000
section
variable {P : Program} {F : Nat → Nat}
attribute [local simp] gOk updo upd ev RK.val? isShift intBin Addr.add_mk args0 Value.cells undef
theorem goInvk {x : Operand} {name : String} {args : List Operand} {d : Option Nat} {g : Option (Nat × Bool)} {r : List RI} {σ : Sl} {w : World} {Q : Sl → World → Prop} {R : Ending → World → Prop} {T : TypeId} {v : Value} {f : FuncId} {vs : List Value}
    (hg : gOk g σ = true) (hx : ev σ x = .iface T v) (hf : methOf P T name = some f) (hb : hasBody P f = true) (ha : args.map (ev σ) = vs) (hc : Calls P f (v :: vs).toArray w R)
    (hk : ∀ e w', R e w' → ∃ v, e = .returned v ∧ wpR P r (updo σ d v) w' Q) : wpR P (⟨d, .invk x name args, g⟩ :: r) σ w Q := by
  subst ha
  refine goC hg ?_
  simp only [RK.run, hx]
  exact ⟨f, hf, hb, hc.mono fun e w' he => hk e w' he⟩
theorem goCallv {x : Operand} {args : List Operand} {d : Option Nat} {g : Option (Nat × Bool)} {r : List RI} {σ : Sl} {w : World} {Q : Sl → World → Prop} {R : Ending → World → Prop} {f : FuncId} {first captured : Array Value} {vs : List Value}
    (hg : gOk g σ = true) (hx : ev σ x = .func (.func f) first captured) (hb : hasBody P f = true) (ha : first.toList ++ args.map (ev σ) ++ captured.toList = vs) (hc : Calls P f vs.toArray w R)
    (hk : ∀ e w', R e w' → ∃ v, e = .returned v ∧ wpR P r (updo σ d v) w' Q) : wpR P (⟨d, .callv x args, g⟩ :: r) σ w Q := by
  subst ha
  refine goC hg ?_
  simp only [RK.run, hx]
  exact ⟨hb, hc.mono fun e w' he => hk e w' he⟩
theorem fmtClient1_call (hm : P.follows .mixedOrders = true) (h : liftF P (F kFmtClient1) = some (ir_kFmtClient1 F)) {w : World} {B : Nat} {p : Value} (hp : p.cells = #[p] ∧ p.oneCell' = true) (hb : Blk w B [.pointer none]) :
    Calls P (F kFmtClient1) [.pointer (some ⟨B, 0, none⟩), p].toArray w fun e w' => (∃ v, e = .returned v) ∧ Blk w' B [p] ∧ Mod [B] w w' := by
  unfold ir_kFmtClient1 at h
  refine call_of h hm (by simp) ?_
  clear h
  rw [wpC_blk]
  refine go1 (v := .pointer (some ⟨B, 0, none⟩)) rfl (by simp) ?_
  refine go1 (v := .pointer (some ⟨B, 0, none⟩)) rfl (by simp) ?_
  refine go1 (v := .pointer (some ⟨B, 0, none⟩)) rfl (by simp) ?_
  refine goSt (b := B) (v := p) (cs := [.pointer none]) (by simp) (by simp) hb (by rw [hp.1]; rfl) rfl (by rw [hp.1]; simpa using hp.2) fun w' hb' hm' => goEnd ?_
  rw [hp.1] at hb'
  simp only [postC, rvals, List.mapM_nil, Option.pure_def]
  exact ⟨⟨_, rfl⟩, hb', hm'⟩
theorem fmtApply_call (hm : P.follows .mixedOrders = true) (h : liftF P (F kFmtApply) = some (ir_kFmtApply F)) (h1 : liftF P (F kFmtClient1) = some (ir_kFmtClient1 F)) (hb1 : hasBody P (F kFmtClient1) = true) {w : World} {B : Nat} {p : Value} (hp : p.cells = #[p] ∧ p.oneCell' = true) (hb : Blk w B [.pointer none]) :
    Calls P (F kFmtApply) [.agg #[.func (.func (F kFmtClient1)) #[] #[p]], .pointer (some ⟨B, 0, none⟩)].toArray w fun e w' => (∃ v, e = .returned v) ∧ Blk w' B [p] ∧ Mod [B] w w' := by
  unfold ir_kFmtApply at h
  refine call_of h hm (by simp) ?_
  clear h
  rw [wpC_seq, wpC_blk]
  refine goBox (v := .agg #[.func (.func (F kFmtClient1)) #[] #[p]]) (by simp) fun w1 hc1 hm1 => goEnd ?_
  simp only [thenC]
  rw [wpC_blk]
  refine go1 (v := .pointer (some ⟨w.heap.size, 0, none⟩)) rfl (by simp) ?_
  refine go1 (v := .func (.func (F kFmtClient1)) #[] #[p]) rfl (by
    have := hc1.cell 0
    simp at this
    simp [this]) ?_
  refine go1 (v := .pointer (some ⟨B, 0, none⟩)) rfl (by simp) ?_
  refine goCallv (f := F kFmtClient1) (first := #[]) (captured := #[p]) (vs := [.pointer (some ⟨B, 0, none⟩), p]) rfl (by simp) hb1 (by simp) (fmtClient1_call hm h1 hp (hb.mod hm1 (by simp))) ?_
  rintro e w2 ⟨⟨v, rfl⟩, hb2, hm2⟩
  refine ⟨v, rfl, goEnd ?_⟩
  simp only [postC, rvals, List.mapM_nil, Option.pure_def]
  exact ⟨⟨_, rfl⟩, hb2, hm1.nil.trans hm2⟩
theorem fmtClient_call (hm : P.follows .mixedOrders = true) (h : liftF P (F kFmtClient) = some (ir_kFmtClient F)) {w : World} {s : List UInt8} :
    Calls P (F kFmtClient) [str s].toArray w fun e w' => e = .returned (.iface (F tyFmtOpt) (.agg #[.func (.func (F kFmtClient1)) #[] #[.pointer (some ⟨w.heap.size, 0, none⟩)]])) ∧ Blk w' w.heap.size [str s] ∧ Mod [] w w' := by
  unfold ir_kFmtClient at h
  refine call_of h hm (by simp) ?_
  clear h
  rw [wpC_seq, wpC_blk]
  refine goBox (v := str s) (by simp) fun w1 hc1 hm1 => ?_
  refine go1 (v := .nilIface) rfl (by simp) (goEnd ?_)
  simp only [thenC]
  rw [wpC_seq, wpC_blk]
  refine go1 (v := .func (.func (F kFmtClient1)) #[] #[.pointer (some ⟨w.heap.size, 0, none⟩)]) rfl (by simp) ?_
  refine go1 (v := .agg #[.func (.func (F kFmtClient1)) #[] #[.pointer (some ⟨w.heap.size, 0, none⟩)]]) rfl (by simp [fillL, splice]) ?_
  refine go1 (v := .iface (F tyFmtOpt) (.agg #[.func (.func (F kFmtClient1)) #[] #[.pointer (some ⟨w.heap.size, 0, none⟩)]])) rfl (by simp) ?_
  refine go1 (v := .iface (F tyFmtOpt) (.agg #[.func (.func (F kFmtClient1)) #[] #[.pointer (some ⟨w.heap.size, 0, none⟩)]])) rfl (by simp) (goEnd ?_)
  simp only [thenC]
  exact ret1 (by simp) ⟨rfl, by simpa [str] using hc1, hm1⟩
theorem fmtNew_none (hm : P.follows .mixedOrders = true) (h : liftF P (F kFmtNew) = some (ir_kFmtNew F)) {w : World} :
    Calls P (F kFmtNew) [.slice none 0 0].toArray w fun e w' => e = .returned (.pointer (some ⟨w.heap.size, 0, none⟩)) ∧ Blk w' w.heap.size [.pointer none] ∧ Mod [] w w' := by
  unfold ir_kFmtNew at h
  refine call_of h hm (by simp) ?_
  clear h
  rw [wpC_seq, wpC_blk]
  refine go1 (v := .pointer none) rfl (by simp) (goEnd ?_)
  simp only [thenC]
  rw [wpC_seq, wpC_blk]
  refine goAlloc fun w1 hc1 hm1 => ?_
  refine go1 (v := .pointer (some ⟨w.heap.size, 0, none⟩)) rfl (by simp) (goEnd ?_)
  simp only [thenC]
  rw [wpC_seq, wpC_seq, wpC_blk]
  refine go1 (v := .slice none 0 0) rfl (by simp) ?_
  refine go1 (v := .int .i64 0) rfl (by simp) ?_
  refine go1 (v := .int .i64 0) rfl (by simp) (goEnd ?_)
  simp only [thenC]
  refine rangeLoop (n := 0) (fun j σ w' => σ 9 = .int .i64 (j : Nat) ∧ σ 8 = .int .i64 0 ∧ σ 3 = .pointer (some ⟨w.heap.size, 0, none⟩) ∧ w' = w1) (by omega) (by simp) (fun j σ w h => ⟨h.1, by simpa using h.2.1⟩) (by simp) (fun j σ w hj => by omega) ?_
  rintro σ w' ⟨a, b, c, rfl⟩
  simp only [thenC]
  rw [wpC_seq, wpC_blk]
  refine go1 (v := .pointer (some ⟨w.heap.size, 0, none⟩)) rfl (by simp [c]) ?_
  refine go1 (v := .pointer (some ⟨w.heap.size, 0, none⟩)) rfl (by simp) (goEnd ?_)
  simp only [thenC]
  exact ret1 (by simp) ⟨rfl, hc1, hm1⟩
theorem fmtNew_one (hm : P.follows .mixedOrders = true) (h : liftF P (F kFmtNew) = some (ir_kFmtNew F)) (ha : liftF P (F kFmtApply) = some (ir_kFmtApply F)) (h1 : liftF P (F kFmtClient1) = some (ir_kFmtClient1 F))
    (hb1 : hasBody P (F kFmtClient1) = true) (hba : hasBody P (F kFmtApply) = true) (hmeth : methOf P (F tyFmtOpt) "pub-mailsack/pub/kmsg.apply" = some (F kFmtApply)) {w : World} {A : Nat} {p : Value} (hp : p.cells = #[p] ∧ p.oneCell' = true)
    (hA : Blk w A [.iface (F tyFmtOpt) (.agg #[.func (.func (F kFmtClient1)) #[] #[p]])]) :
    Calls P (F kFmtNew) [.slice (some ⟨A, 0, none⟩) 1 1].toArray w fun e w' => e = .returned (.pointer (some ⟨w.heap.size, 0, none⟩)) ∧ Blk w' w.heap.size [p] ∧ Mod [] w w' := by
  unfold ir_kFmtNew at h
  refine call_of h hm (by simp) ?_
  clear h
  rw [wpC_seq, wpC_blk]
  refine go1 (v := .pointer none) rfl (by simp) (goEnd ?_)
  simp only [thenC]
  rw [wpC_seq, wpC_blk]
  refine goAlloc fun w1 hc1 hm1 => ?_
  refine go1 (v := .pointer (some ⟨w.heap.size, 0, none⟩)) rfl (by simp) (goEnd ?_)
  simp only [thenC]
  rw [wpC_seq, wpC_seq, wpC_blk]
  refine go1 (v := .slice (some ⟨A, 0, none⟩) 1 1) rfl (by simp) ?_
  refine go1 (v := .int .i64 1) rfl (by simp) ?_
  refine go1 (v := .int .i64 0) rfl (by simp) (goEnd ?_)
  simp only [thenC]
  have hne : A ≠ w.heap.size := by have := hA.lt; omega
  refine rangeLoop (n := 1) (fun j σ w' => σ 9 = .int .i64 (j : Nat) ∧ σ 8 = .int .i64 1 ∧ σ 3 = .pointer (some ⟨w.heap.size, 0, none⟩) ∧ σ 7 = .slice (some ⟨A, 0, none⟩) 1 1 ∧ Blk w' w.heap.size [if j = 0 then .pointer none else p] ∧ Mod [] w w') (by omega) (by simp) (fun j σ w h => ⟨h.1, by simpa using h.2.1⟩) (by simp [hc1, hm1]) ?_ ?_
  · rintro j σ w' hj ⟨a, b, c, d, hB, hM⟩
    obtain rfl : j = 0 := by omega
    have hA' := (hA.mod hM (by simp)).cell 0
    simp at hA'
    rw [wpC_seq, wpC_blk]
    refine go1 (v := .pointer (some ⟨A, 0, none⟩)) rfl (by simp [d, a]) ?_
    refine go1 (v := .iface (F tyFmtOpt) (.agg #[.func (.func (F kFmtClient1)) #[] #[p]])) rfl (by simp [hA']) ?_
    refine go1 (v := .iface (F tyFmtOpt) (.agg #[.func (.func (F kFmtClient1)) #[] #[p]])) rfl (by simp) (goEnd ?_)
    simp only [thenC]
    rw [wpC_blk]
    refine go1 (v := .iface (F tyFmtOpt) (.agg #[.func (.func (F kFmtClient1)) #[] #[p]])) rfl (by simp) ?_
    refine go1 (v := .pointer (some ⟨w.heap.size, 0, none⟩)) rfl (by simp [c]) ?_
    refine goInvk (vs := [.pointer (some ⟨w.heap.size, 0, none⟩)]) rfl (by simp) hmeth hba (by simp) (fmtApply_call hm ha h1 hb1 hp (by simpa using hB)) ?_
    rintro e w2 ⟨⟨v, rfl⟩, hb2, hm2⟩
    refine ⟨v, rfl, goEnd ?_⟩
    simp only [rngP]
    refine ⟨by simp [a], by simp, by simp [b], by simp [c], by simp [d], by simpa using hb2, Mod.drop (hM.nil.trans hm2) (Nat.le_refl _)⟩
  · rintro σ w' ⟨a, b, c, d, hB, hM⟩
    simp only [thenC]
    rw [wpC_seq, wpC_blk]
    refine go1 (v := .pointer (some ⟨w.heap.size, 0, none⟩)) rfl (by simp [c]) ?_
    refine go1 (v := .pointer (some ⟨w.heap.size, 0, none⟩)) rfl (by simp) (goEnd ?_)
    simp only [thenC]
    exact ret1 (by simp) ⟨rfl, by simpa using hB, hM⟩
end
end Go.Msk

namespace Go.Msk
open Go.RowKit
set_option maxRecDepth 100000
section
variable {P : Program} {F : Nat → Nat}
def UvRes (l : List UInt8) (e : Ending) : Prop :=
  match uvR 5 l with
  | some (v, k) => e = .returned (.tuple #[.int .u32 v, .int .i64 k])
  | none => ∃ n : Int, n ≤ 0 ∧ e = .returned (.tuple #[.int .u32 0, .int .i64 n])
theorem uv_label {w : World} {σ : Sl} {n : Int} {Q : Exit → Sl → World → Prop} (h5 : σ 5 = .int .i64 n) (hQ : ∀ σ', σ' 2 = .int .u32 0 → σ' 3 = .int .i64 n → Q .ret σ' w) :
    wpC P (.seq .skip (.seq (.blk [⟨some 86, .mv (.tmp 5), none⟩, ⟨some 2, .mv (.const (.int .u32 0)), none⟩, ⟨some 3, .mv (.tmp 86), none⟩]) .ret)) Q σ w := by
  rw [wpC_seq, wpC_skip]
  simp only [thenC]
  rw [wpC_seq, wpC_blk]
  refine wpR_step (v := .int .i64 n) (congrArg some h5) ?_
  refine wpR_step (v := .int .u32 0) rfl ?_
  refine wpR_step (v := .int .i64 n) rfl ?_
  refine wpR_done ?_
  exact hQ _ rfl rfl
theorem uv_none {l : List UInt8} {w : World} {σ : Sl} {n : Int} (hn : n ≤ 0) (h2 : σ 2 = .int .u32 0) (h3 : σ 3 = .int .i64 n) (hr : uvR 5 l = none) : postC [.tmp 2, .tmp 3] (fun e w' => UvRes l e ∧ w' = w) .ret σ w := by
  simp only [postC, rvals, List.mapM_cons, List.mapM_nil, RV.val, h2, h3, Option.bind_eq_bind, Option.bind_some, Option.pure_def, tup]
  refine ⟨?_, trivial⟩
  unfold UvRes; rw [hr]; exact ⟨n, hn, rfl⟩
theorem uv_fail {l : List UInt8} {w : World} {σ : Sl} {n : Int} (hn : n ≤ 0) (h5 : σ 5 = .int .i64 n) (hr : uvR 5 l = none) :
    wpC P (.seq .skip (.seq (.blk [⟨some 86, .mv (.tmp 5), none⟩, ⟨some 2, .mv (.const (.int .u32 0)), none⟩, ⟨some 3, .mv (.tmp 86), none⟩]) .ret)) (noGotoC (postC [.tmp 2, .tmp 3] fun e w' => UvRes l e ∧ w' = w)) σ w :=
  uv_label h5 fun _ e2 e3 => uv_none hn e2 e3 hr
def UvQ (P : Program) (l : List UInt8) (w : World) : Exit → Sl → World → Prop :=
  jumpC 0 (wpC P (.seq .skip (.seq (.blk [⟨some 86, .mv (.tmp 5), none⟩, ⟨some 2, .mv (.const (.int .u32 0)), none⟩, ⟨some 3, .mv (.tmp 86), none⟩]) .ret)) (noGotoC (postC [.tmp 2, .tmp 3] fun e w' => UvRes l e ∧ w' = w))) (postC [.tmp 2, .tmp 3] fun e w' => UvRes l e ∧ w' = w)
theorem uv_goto {l : List UInt8} {w : World} {σ : Sl} {n : Int} (hn : n ≤ 0) (h5 : σ 5 = .int .i64 n) (hr : uvR 5 l = none) : UvQ P l w (.goto 0) σ w := ⟨rfl, uv_fail hn h5 hr⟩
theorem uv_scope {l : List UInt8} {w : World} {σ : Sl} {a : IC} (h : wpC P a (UvQ P l w) σ w) :
    wpC P (.scopeTo a 0 (.seq .skip (.seq (.blk [⟨some 86, .mv (.tmp 5), none⟩, ⟨some 2, .mv (.const (.int .u32 0)), none⟩, ⟨some 3, .mv (.tmp 86), none⟩]) .ret))) (postC [.tmp 2, .tmp 3] fun e w' => UvRes l e ∧ w' = w) σ w := h
theorem uv_ret {l : List UInt8} {w : World} {σ : Sl} {v k : Nat} (h2 : σ 2 = .int .u32 v) (h3 : σ 3 = .int .i64 k) (hr : uvR 5 l = some (v, k)) : UvQ P l w .ret σ w := by
  show postC [.tmp 2, .tmp 3] (fun e w' => UvRes l e ∧ w' = w) .ret σ w
  simp only [postC, rvals, List.mapM_cons, List.mapM_nil, RV.val, h2, h3, Option.bind_eq_bind, Option.bind_some, Option.pure_def, tup]
  refine ⟨?_, trivial⟩
  unfold UvRes; rw [hr]
theorem uv_last {X len cap : Nat} {a : Addr} {l : List UInt8} {b : UInt8} {σ : Sl} {w : World} {rest : IC} {Q : Exit → Sl → World → Prop} (hb : IsBytes w (some a) len cap l) (hi : l[4]? = some b) (hX : X < 2 ^ 28) (hS : UvS a len cap X σ)
    (hret : b.toNat ≤ 15 → ∀ σ', σ' 2 = .int .u32 ((X + b.toNat * 2 ^ 28 : Nat) : Int) → σ' 3 = .int .i64 5 → Q .ret σ' w)
    (hnext : ¬ b.toNat ≤ 15 → ∀ σ', wpC P rest Q σ' w) :
    wpC P (.seq (.blk [⟨some 74, .mv (.tmp 4), none⟩, ⟨some 75, .mv (.tmp 0), none⟩, ⟨some 76, .iad (.tmp 75) (.const (.int .i64 4)) 1, none⟩, ⟨some 77, .ld (.tmp 76), none⟩, ⟨some 78, .conv .u32 (.tmp 77), none⟩, ⟨some 79, .bin .shl (.tmp 78) (.const (.int .u64 28)), none⟩, ⟨some 80, .bin .or (.tmp 74) (.tmp 79), none⟩, ⟨some 4, .mv (.tmp 80), none⟩])
      (.seq (.seq (.blk [⟨some 81, .mv (.tmp 0), none⟩, ⟨some 82, .iad (.tmp 81) (.const (.int .i64 4)) 1, none⟩, ⟨some 83, .ld (.tmp 82), none⟩, ⟨some 84, .bin .leq (.tmp 83) (.const (.int .u8 15)), none⟩])
        (.cond (.tmp 84) (.seq (.blk [⟨some 85, .mv (.tmp 4), none⟩, ⟨some 2, .mv (.tmp 85), none⟩, ⟨some 3, .mv (.const (.int .i64 5)), none⟩]) .ret) .skip)) rest)) Q σ w := by
  have hlt := hb.lt hi
  have hg := hb.get hi
  have hbl := byte_lt b
  have e4 : IntKind.u32.wrap (b.toNat : Int) = b.toNat := u32_nat (by omega)
  obtain ⟨q0, q4, q5⟩ := hS
  rw [wpC_seq, wpC_blk]
  refine wpR_step (v := .int .u32 X) (congrArg some q4) ?_
  refine wpR_step (v := .slice (some a) len cap) (by simp only [RK.val?, ev, updo, upd]; simp [q0]) ?_
  refine wpR_step (v := .pointer (some (a.add 4))) (by simp only [RK.val?, ev, updo, upd, if_true]; rw [if_pos (by omega)]; simp) ?_
  refine wpR_step (v := .int .u8 b.toNat) (by simp only [RK.val?, ev, updo, upd, if_true]; exact hg) ?_
  refine wpR_step (v := .int .u32 b.toNat) (by simp only [RK.val?, ev, updo, upd, if_true, e4]) ?_
  obtain ⟨m, hm⟩ : ∃ m : Int, intBin .shl .u32 (b.toNat : Int) 28 = some (.int .u32 m) := ⟨_, by unfold intBin; simp only; rw [if_neg (by omega)]⟩
  obtain ⟨y, hy⟩ : ∃ y : Int, intBin .or .u32 (X : Int) m = some (.int .u32 y) := ⟨_, rfl⟩
  refine wpR_step (v := .int .u32 m) (by simp only [RK.val?, ev, updo, upd, if_true, isShift, Bool.true_or]; exact hm) ?_
  refine wpR_step (v := .int .u32 y) (by
    simp only [RK.val?, ev, updo, upd, if_true, decide_true, Bool.or_true, show (74 : Nat) ≠ 75 by decide, show (74 : Nat) ≠ 76 by decide, show (74 : Nat) ≠ 77 by decide, show (74 : Nat) ≠ 78 by decide, show (74 : Nat) ≠ 79 by decide, if_false]
    exact hy) ?_
  refine wpR_step (v := .int .u32 y) (by simp only [RK.val?, ev, updo, upd, if_true]) ?_
  refine wpR_done ?_
  generalize hσ1 : updo _ (some 4) _ = σ1
  have k0 : σ1 0 = .slice (some a) len cap := by rw [← hσ1]; simp [updo, upd, q0]
  have k4 : σ1 4 = .int .u32 y := by rw [← hσ1]; simp [updo, upd]
  clear hσ1
  rw [wpC_seq, wpC_seq, wpC_blk]
  refine wpR_step (v := .slice (some a) len cap) (congrArg some k0) ?_
  refine wpR_step (v := .pointer (some (a.add 4))) (by simp only [RK.val?, ev, updo, upd, if_true]; rw [if_pos (by omega)]; simp) ?_
  refine wpR_step (v := .int .u8 b.toNat) (by simp only [RK.val?, ev, updo, upd, if_true]; exact hg) ?_
  refine wpR_step (v := .bool (decide (b.toNat ≤ 15))) (by
    simp only [RK.val?, ev, updo, upd, if_true, decide_true, Bool.or_true, intBin]
    congr 2; exact decide_eq_decide.2 (by omega)) ?_
  refine wpR_done ?_
  by_cases hb4 : b.toNat ≤ 15
  · have hs := shl_u32 (x := b.toNat) (s := 28) (by omega) (by omega)
    have ho := or_u32 (x := X) (y := b.toNat) (s := 28) hX (by omega) (by omega)
    have em : m = ((b.toNat * 2 ^ 28 : Nat) : Int) := by
      have := hm.symm.trans hs
      simpa using this
    rw [em] at hy
    have ey : y = ((X + b.toNat * 2 ^ 28 : Nat) : Int) := by
      have := hy.symm.trans ho
      simpa using this
    rw [wpC_cond_t (by simp only [ev, updo, upd, if_true, hb4, decide_true]), wpC_seq, wpC_blk]
    refine wpR_step (v := .int .u32 y) (by simp only [RK.val?, ev, updo, upd]; simp [k4]) ?_
    refine wpR_step (v := .int .u32 y) (by simp only [RK.val?, ev, updo, upd, if_true]) ?_
    refine wpR_step (v := .int .i64 5) rfl ?_
    refine wpR_done ?_
    exact hret hb4 _ (by simp only [updo, upd, show (2 : Nat) ≠ 3 by decide, if_false, if_true, ey]) rfl
  · rw [wpC_cond_f (by simp only [ev, updo, upd, if_true, hb4, decide_false]), wpC_skip]
    exact hnext hb4 _
theorem uv_first {len cap : Nat} {base : Option Addr} {l : List UInt8} {σ : Sl} {w : World} {rest : IC} {Q : Exit → Sl → World → Prop} (hb : IsBytes w base len cap l) (k0 : σ 0 = .slice base len cap)
    (hgo0 : l = [] → ∀ σ', σ' 5 = .int .i64 0 → Q (.goto 0) σ' w)
    (hret : ∀ b r, l = b :: r → b.toNat < 128 → ∀ σ', σ' 2 = .int .u32 b.toNat → σ' 3 = .int .i64 1 → Q .ret σ' w)
    (hgo1 : ∀ b, l = [b] → ¬ b.toNat < 128 → ∀ σ', σ' 5 = .int .i64 0 → Q (.goto 0) σ' w)
    (hnext : ∀ a b c r, base = some a → l = b :: c :: r → ¬ b.toNat < 128 → ∀ σ', UvS a len cap (b.toNat % 128) σ' → wpC P rest Q σ' w) :
    wpC P (.seq (.blk [⟨some 4, .mv (.const (.int .u32 0)), none⟩]) (.seq (.blk [⟨some 5, .mv (.const (.int .i64 0)), none⟩])
      (.seq (.seq (.blk [⟨some 6, .mv (.tmp 0), none⟩, ⟨some 7, .len (.tmp 6), none⟩, ⟨some 8, .bin .lss (.tmp 7) (.const (.int .i64 1)), none⟩]) (.cond (.tmp 8) (.goto 0) .skip))
      (.seq (.blk [⟨some 9, .mv (.tmp 0), none⟩, ⟨some 10, .iad (.tmp 9) (.const (.int .i64 0)) 1, none⟩, ⟨some 11, .ld (.tmp 10), none⟩, ⟨some 12, .bin .and (.tmp 11) (.const (.int .u8 127)), none⟩, ⟨some 13, .conv .u32 (.tmp 12), none⟩, ⟨some 4, .mv (.tmp 13), none⟩])
      (.seq (.seq (.blk [⟨some 14, .mv (.tmp 0), none⟩, ⟨some 15, .iad (.tmp 14) (.const (.int .i64 0)) 1, none⟩, ⟨some 16, .ld (.tmp 15), none⟩, ⟨some 17, .bin .and (.tmp 16) (.const (.int .u8 128)), none⟩, ⟨some 18, .bin .eql (.tmp 17) (.const (.int .u8 0)), none⟩])
        (.cond (.tmp 18) (.seq (.blk [⟨some 19, .mv (.tmp 4), none⟩, ⟨some 2, .mv (.tmp 19), none⟩, ⟨some 3, .mv (.const (.int .i64 1)), none⟩]) .ret)
          (.seq (.blk [⟨some 20, .mv (.tmp 0), none⟩, ⟨some 21, .len (.tmp 20), none⟩, ⟨some 22, .bin .lss (.tmp 21) (.const (.int .i64 2)), none⟩]) (.cond (.tmp 22) (.goto 0) .skip)))) rest))))) Q σ w := by
  have hlen := hb.hlen
  rw [wpC_seq, wpC_blk]
  refine wpR_step (v := .int .u32 0) rfl ?_
  refine wpR_done ?_
  rw [wpC_seq, wpC_blk]
  refine wpR_step (v := .int .i64 0) rfl ?_
  refine wpR_done ?_
  rw [wpC_seq, wpC_seq, wpC_blk]
  refine wpR_step (v := .slice base len cap) (by simp only [RK.val?, ev, updo, upd]; simp [k0]) ?_
  refine wpR_step (v := .int .i64 len) (by simp only [RK.val?, ev, updo, upd, if_true]) ?_
  refine wpR_step (v := .bool (decide (len < 1))) (by
    simp only [RK.val?, ev, updo, upd, if_true, isShift, decide_true, Bool.or_true, intBin]
    congr 2; exact decide_eq_decide.2 (by omega)) ?_
  refine wpR_done ?_
  by_cases h1 : len < 1
  · rw [wpC_cond_t (by simp only [ev, updo, upd, if_true, h1, decide_true])]
    exact hgo0 (List.length_eq_zero_iff.1 (by omega)) _ rfl
  rw [wpC_cond_f (by simp only [ev, updo, upd, if_true, h1, decide_false]), wpC_skip]
  simp only [thenC]
  obtain ⟨a, rfl⟩ : ∃ a, base = some a := by
    cases base with
    | some a => exact ⟨a, rfl⟩
    | none => have := hb.hnone rfl; have := hb.hcap; omega
  obtain ⟨b0, r0, rfl⟩ : ∃ b r, l = b :: r := by cases l with | nil => simp at hlen; omega | cons b r => exact ⟨b, r, rfl⟩
  have g0 := hb.get (i := 0) (b := b0) rfl
  have hbl := byte_lt b0
  have e0 : IntKind.u32.wrap ((b0.toNat % 128 : Nat) : Int) = ((b0.toNat % 128 : Nat) : Int) := u32_nat (by omega)
  generalize hσ : updo _ (some 8) _ = σ1
  have k0' : σ1 0 = .slice (some a) len cap := by rw [← hσ]; simp [updo, upd, k0]
  have k5 : σ1 5 = .int .i64 0 := by rw [← hσ]; simp [updo, upd]
  clear hσ k0
  have k0 := k0'
  rw [wpC_seq, wpC_blk]
  refine wpR_step (v := .slice (some a) len cap) (congrArg some k0) ?_
  refine wpR_step (v := .pointer (some (a.add 0))) (by simp only [RK.val?, ev, updo, upd, if_true]; rw [if_pos (by omega)]; simp) ?_
  refine wpR_step (v := .int .u8 b0.toNat) (by simp only [RK.val?, ev, updo, upd, if_true]; exact g0) ?_
  refine wpR_step (v := .int .u8 ((b0.toNat % 128 : Nat) : Int)) (by simp only [RK.val?, ev, updo, upd, if_true, decide_true, Bool.or_true]; exact and127 b0) ?_
  refine wpR_step (v := .int .u32 ((b0.toNat % 128 : Nat) : Int)) (by simp only [RK.val?, ev, updo, upd, if_true, e0]) ?_
  refine wpR_step (v := .int .u32 ((b0.toNat % 128 : Nat) : Int)) (by simp only [RK.val?, ev, updo, upd, if_true]) ?_
  refine wpR_done ?_
  generalize hσ : updo _ (some 4) _ = σ2
  have m0 : σ2 0 = .slice (some a) len cap := by rw [← hσ]; simp [updo, upd, k0]
  have m4 : σ2 4 = .int .u32 ((b0.toNat % 128 : Nat) : Int) := by rw [← hσ]; simp only [updo, upd, if_true]
  have m5 : σ2 5 = .int .i64 0 := by rw [← hσ]; simp [updo, upd, k5]
  clear hσ
  rw [wpC_seq, wpC_seq, wpC_blk]
  refine wpR_step (v := .slice (some a) len cap) (congrArg some m0) ?_
  refine wpR_step (v := .pointer (some (a.add 0))) (by simp only [RK.val?, ev, updo, upd, if_true]; rw [if_pos (by omega)]; simp) ?_
  refine wpR_step (v := .int .u8 b0.toNat) (by simp only [RK.val?, ev, updo, upd, if_true]; exact g0) ?_
  refine wpR_step (v := .int .u8 (if b0.toNat < 128 then 0 else 128)) (by simp only [RK.val?, ev, updo, upd, if_true, decide_true, Bool.or_true]; exact and128 b0) ?_
  refine wpR_step (v := .bool (decide (b0.toNat < 128))) (by
    simp only [RK.val?, ev, updo, upd, if_true, decide_true, Bool.or_true, intBin]
    by_cases hbb : b0.toNat < 128 <;> simp [hbb]) ?_
  refine wpR_done ?_
  by_cases hb0 : b0.toNat < 128
  · rw [wpC_cond_t (by simp only [ev, updo, upd, if_true, hb0, decide_true]), wpC_seq, wpC_blk]
    refine wpR_step (v := .int .u32 ((b0.toNat % 128 : Nat) : Int)) (by simp only [RK.val?, ev, updo, upd]; simp [m4]) ?_
    refine wpR_step (v := .int .u32 ((b0.toNat % 128 : Nat) : Int)) (by simp only [RK.val?, ev, updo, upd, if_true]) ?_
    refine wpR_step (v := .int .i64 1) rfl ?_
    refine wpR_done ?_
    exact hret b0 r0 rfl hb0 _ (by simp only [updo, upd, show (2 : Nat) ≠ 3 by decide, if_false, if_true]; rw [Nat.mod_eq_of_lt hb0]) rfl
  rw [wpC_cond_f (by simp only [ev, updo, upd, if_true, hb0, decide_false]), wpC_seq, wpC_blk]
  refine wpR_step (v := .slice (some a) len cap) (by simp only [RK.val?, ev, updo, upd]; simp [m0]) ?_
  refine wpR_step (v := .int .i64 len) (by simp only [RK.val?, ev, updo, upd, if_true]) ?_
  refine wpR_step (v := .bool (decide (len < 2))) (by
    simp only [RK.val?, ev, updo, upd, if_true, isShift, decide_true, Bool.or_true, intBin]
    congr 2; exact decide_eq_decide.2 (by omega)) ?_
  refine wpR_done ?_
  simp only [List.length_cons] at hlen
  by_cases h2 : len < 2
  · rw [wpC_cond_t (by simp only [ev, updo, upd, if_true, h2, decide_true])]
    have : r0 = [] := List.length_eq_zero_iff.1 (by omega)
    subst this
    exact hgo1 b0 rfl hb0 _ (by simp [updo, upd, m5])
  rw [wpC_cond_f (by simp only [ev, updo, upd, if_true, h2, decide_false]), wpC_skip]
  simp only [thenC]
  obtain ⟨b1, r1, rfl⟩ : ∃ b r, r0 = b :: r := by cases r0 with | nil => simp at hlen; omega | cons b r => exact ⟨b, r, rfl⟩
  exact hnext a b0 b1 r1 rfl rfl hb0 _ ⟨by simp [updo, upd, m0], by simp [updo, upd, m4], by simp [updo, upd, m5]⟩
theorem uv_no {n : Nat} {b : UInt8} {r : List UInt8} (h1 : ¬ b.toNat < 128) (h2 : uvR n r = none) : uvR (n + 1) (b :: r) = none := by simp only [uvR, h1, if_false, h2]
theorem uv_nil (n : Nat) : uvR n ([] : List UInt8) = none := by cases n <;> rfl
theorem kUvarint_call (hm : P.follows .mixedOrders = true) (h : liftF P (F kUvarint) = some (ir_kUvarint F)) {base : Option Addr} {len cap : Nat} {l : List UInt8} {w : World} (hb : IsBytes w base len cap l) :
    Calls P (F kUvarint) [.slice base len cap].toArray w fun e w' => UvRes l e ∧ w' = w := by
  unfold ir_kUvarint at h
  refine call_of h hm (by simp) ?_
  have a0 : args0 [.slice base len cap] 0 = .slice base len cap := rfl
  generalize args0 [.slice base len cap] = σ0 at a0 ⊢
  have hlen := hb.hlen
  rw [wpC_seq, wpC_blk]
  refine wpR_step (v := .int .u32 0) rfl ?_
  refine wpR_step (v := .int .i64 0) rfl ?_
  refine wpR_done ?_
  have k0 : updo (updo σ0 (some 2) (.int .u32 0)) (some 3) (.int .i64 0) 0 = .slice base len cap := by simp [updo, upd, a0]
  generalize updo (updo σ0 (some 2) (.int .u32 0)) (some 3) (.int .i64 0) = σ1 at k0 ⊢
  refine uv_scope ?_
  refine uv_first hb k0 ?_ ?_ ?_ ?_
  · rintro rfl σ' e5
    exact uv_goto (n := 0) (Int.le_refl _) e5 (uv_nil _)
  · rintro b r rfl hb0 σ' e2 e3
    refine uv_ret (v := b.toNat) (k := 1) e2 e3 ?_
    simp only [uvR, hb0, if_true]; simp
  · rintro b rfl hb0 σ' e5
    exact uv_goto (n := 0) (Int.le_refl _) e5 (uv_no hb0 (uv_nil _))
  rintro a b0 b1 r1 rfl rfl hb0 σ1 hS1
  simp only [List.length_cons] at hlen
  refine uv_level (t := 23) (i := 1) (sh := 7) (x := b0.toNat % 128) (b := b1) (by omega) hb rfl (by omega) (by omega) rfl rfl rfl hS1 ?_ ?_ ?_
  · intro hb1 σ' e2 e3
    refine uv_ret (v := b0.toNat % 128 + b1.toNat * 2 ^ 7) (k := 2) e2 e3 ?_
    simp only [uvR, hb0, hb1, if_true, if_false]; simp; omega
  · intro hb1 hl σ' e5
    have : r1 = [] := List.length_eq_zero_iff.1 (by omega)
    subst this
    exact uv_goto (n := 0) (Int.le_refl _) e5 (uv_no hb0 (uv_no hb1 (uv_nil _)))
  intro hb1 hl1 σ2 hS2
  obtain ⟨b2, r2, rfl⟩ : ∃ b r, r1 = b :: r := by cases r1 with | nil => simp at hlen; omega | cons b r => exact ⟨b, r, rfl⟩
  simp only [List.length_cons] at hlen
  refine uv_level (t := 40) (i := 2) (sh := 14) (b := b2) (by omega) hb rfl (by omega) (by omega) rfl rfl rfl hS2 ?_ ?_ ?_
  · intro hb2 σ' e2 e3
    refine uv_ret (v := b0.toNat % 128 + b1.toNat % 128 * 2 ^ 7 + b2.toNat * 2 ^ 14) (k := 3) e2 e3 ?_
    simp only [uvR, hb0, hb1, hb2, if_true, if_false]; simp; omega
  · intro hb2 hl σ' e5
    have : r2 = [] := List.length_eq_zero_iff.1 (by omega)
    subst this
    exact uv_goto (n := 0) (Int.le_refl _) e5 (uv_no hb0 (uv_no hb1 (uv_no hb2 (uv_nil _))))
  intro hb2 hl2 σ3 hS3
  obtain ⟨b3, r3, rfl⟩ : ∃ b r, r2 = b :: r := by cases r2 with | nil => simp at hlen; omega | cons b r => exact ⟨b, r, rfl⟩
  simp only [List.length_cons] at hlen
  refine uv_level (t := 57) (i := 3) (sh := 21) (b := b3) (by omega) hb rfl (by omega) (by omega) rfl rfl rfl hS3 ?_ ?_ ?_
  · intro hb3 σ' e2 e3
    refine uv_ret (v := b0.toNat % 128 + b1.toNat % 128 * 2 ^ 7 + b2.toNat % 128 * 2 ^ 14 + b3.toNat * 2 ^ 21) (k := 4) e2 e3 ?_
    simp only [uvR, hb0, hb1, hb2, hb3, if_true, if_false]; simp; omega
  · intro hb3 hl σ' e5
    have : r3 = [] := List.length_eq_zero_iff.1 (by omega)
    subst this
    exact uv_goto (n := 0) (Int.le_refl _) e5 (uv_no hb0 (uv_no hb1 (uv_no hb2 (uv_no hb3 (uv_nil _)))))
  intro hb3 hl3 σ4 hS4
  obtain ⟨b4, r4, rfl⟩ : ∃ b r, r3 = b :: r := by cases r3 with | nil => simp at hlen; omega | cons b r => exact ⟨b, r, rfl⟩
  refine uv_last (b := b4) hb rfl (by omega) hS4 ?_ ?_
  · intro hb4 σ' e2 e3
    refine uv_ret (v := b0.toNat % 128 + b1.toNat % 128 * 2 ^ 7 + b2.toNat % 128 * 2 ^ 14 + b3.toNat % 128 * 2 ^ 21 + b4.toNat * 2 ^ 28) (k := 5) e2 e3 ?_
    have hb4' : b4.toNat < 128 := by omega
    have hb4'' : ¬ 15 < b4.toNat := by omega
    simp only [uvR, hb0, hb1, hb2, hb3, hb4', hb4'', if_true, if_false, and_false]; simp; omega
  · intro hb4 σ'
    have hfail : uvR 5 (b0 :: b1 :: b2 :: b3 :: b4 :: r4) = none := by
      refine uv_no hb0 (uv_no hb1 (uv_no hb2 (uv_no hb3 ?_)))
      by_cases hb5 : b4.toNat < 128
      · simp only [uvR, hb5, if_true]; simp; omega
      · simp only [uvR, hb5, if_false]
    rw [wpC_seq, wpC_blk]
    refine wpR_step (v := .int .i64 (-5)) rfl ?_
    refine wpR_done ?_
    exact uv_label (n := -5) rfl fun _ e2 e3 => uv_none (by omega) e2 e3 hfail
end
end Go.Msk
