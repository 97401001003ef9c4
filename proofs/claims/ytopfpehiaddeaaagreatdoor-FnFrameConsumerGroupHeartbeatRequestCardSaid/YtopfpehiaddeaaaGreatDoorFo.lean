/- A small language of resolved operations, and what the generic and the generated functions do in it (part 15). -/
import Derived.Test.YtopfpehiaddeaaaGreatDoorFn
import Derived.ProofKit
import Derived.LaidMore
import Derived.OpenShut
import Derived.Stop.Joined

namespace Go.Msk
open Go.RowKit
set_option maxRecDepth 100000
structure FrLib (P : Program) (F : Nat → Nat) : Prop where
  mixed : P.follows .mixedOrders = true
  fmtNew : liftF P (F kFmtNew) = some (ir_kFmtNew F)
  client : liftF P (F kFmtClient) = some (ir_kFmtClient F)
  client1 : liftF P (F kFmtClient1) = some (ir_kFmtClient1 F)
  apply : liftF P (F kFmtApply) = some (ir_kFmtApply F)
  req : liftF P (F kFmtReq) = some (ir_kFmtReq F)
  framed : liftF P (F iFramed) = some (ir_iFramed F)
  body1 : hasBody P (F kFmtClient1) = true
  bodyA : hasBody P (F kFmtApply) = true
  meth : methOf P (F tyFmtOpt) "pub-mailsack/pub/kmsg.apply" = some (F kFmtApply)
  i16 : liftF P (F kAppendInt16) = some (ir_kAppendInt16 F)
  u16 : liftF P (F kAppendUint16) = some (ir_kAppendUint16 F)
  i32 : liftF P (F kAppendInt32) = some (ir_kAppendInt32 F)
  u32 : liftF P (F kAppendUint32) = some (ir_kAppendUint32 F)
  nstr : liftF P (F kAppendNullableString) = some (ir_kAppendNullableString F)
  str : liftF P (F kAppendString) = some (ir_kAppendString F)
section
variable {P : Program} {F : Nat → Nat}
attribute [local simp] gOk updo upd ev RK.val? isShift intBin Addr.add_mk args0 Value.cells undef
theorem framed_call (L : FrLib P F) {w : World} {has : Bool} {text : List UInt8} {T : TypeId} {rv : Value} {key ver num : Int} {flex : Bool} {body : List UInt8} (hR : ∀ w1, Mod [] w w1 → ReqC P T rv w1 key ver flex body) (hk7 : key ≠ 7)
    (hlen : (frameP key ver num (if has then some text else none) flex body).length ≤ lim) :
    Calls P (F iFramed) [.agg #[.bool has, str text], .iface T rv, .int .i32 num].toArray w fun e w' => ∃ dv, e = .returned dv ∧ DRaw w' w.heap.size dv (frameP key ver num (if has then some text else none) flex body) ∧ Mod [] w w' := by
  have h := L.framed
  unfold ir_iFramed at h
  refine call_of h L.mixed (by simp) ?_
  clear h
  rw [wpC_seq, wpC_blk]
  refine goBox (v := .agg #[.bool has, str text]) (by simp) fun w1 hb1 hm1 => ?_
  refine go1 (v := .slice none 0 0) rfl (by simp) (goEnd ?_)
  simp only [thenC]
  rw [wpC_seq, wpC_blk]
  refine goCall rfl (vs := [.slice none 0 0]) (by simp) (fmtNew_none L.mixed L.fmtNew (w := w1)) ?_
  rintro e w2 ⟨rfl, hb2, hm2⟩
  refine ⟨_, rfl, go1 (v := .pointer (some ⟨w1.heap.size, 0, none⟩)) rfl (by simp) (goEnd ?_)⟩
  simp only [thenC]
  have hid := hb1.mod hm2 (by simp)
  have hm02 := hm1.trans hm2
  have c0 := hid.cell 0
  have c1 := hid.cell 1
  simp [str] at c0 c1
  suffices rest : ∀ (σ : Sl) (w3 : World) (B : Nat) (p : Value), σ 1 = .iface T rv → σ 2 = .int .i32 num → σ 7 = .pointer (some ⟨B, 0, none⟩) → Mod [] w w3 → Blk w3 B [p] → NStr (if has then some text else none) w3 p →
      wpC P (.seq (.blk [⟨some 16, .mv (.tmp 7), none⟩, ⟨some 17, .mv (.tmp 1), none⟩, ⟨some 18, .mv (.tmp 2), none⟩, ⟨some 19, .call (F kFmtReq) [.tmp 16, .const (.slice none 0 0), .tmp 17, .tmp 18], none⟩, ⟨some 6, .mv (.tmp 19), none⟩]) .ret)
        (postC [.tmp 6] fun e w' => ∃ dv, e = .returned dv ∧ DRaw w' w.heap.size dv (frameP key ver num (if has then some text else none) flex body) ∧ Mod [] w w') σ w3 by
    rw [wpC_seq, wpC_seq, wpC_blk]
    refine go1 (v := .pointer (some ⟨w.heap.size, 0, none⟩)) rfl (by simp) ?_
    refine go1 (v := .bool has) rfl (by simp [c0]) (goEnd ?_)
    simp only [thenC]
    cases has with
    | false =>
      rw [wpC_cond_f (by simp), wpC_skip]
      simp only [thenC]
      exact rest _ w2 w1.heap.size (.pointer none) (by simp) (by simp) (by simp) hm02 hb2 rfl
    | true =>
      rw [wpC_cond_t (by simp), wpC_blk]
      refine go1 (v := .pointer (some ⟨w.heap.size, 1, none⟩)) rfl (by simp) ?_
      refine go1 (v := str text) rfl (by simp [c1, str]) ?_
      refine goCall rfl (vs := [str text]) (by simp) (fmtClient_call L.mixed L.client (w := w2) (s := text)) ?_
      rintro e w3 ⟨rfl, hb3, hm3⟩
      refine ⟨_, rfl, ?_⟩
      refine goOne (cs := [.iface (F tyFmtOpt) (.agg #[.func (.func (F kFmtClient1)) #[] #[.pointer (some ⟨w2.heap.size, 0, none⟩)]])]) (by simp) rfl rfl fun w4 hb4 hm4 => ?_
      refine goCall rfl (vs := [.slice (some ⟨w3.heap.size, 0, none⟩) 1 1]) (by simp) (fmtNew_one L.mixed L.fmtNew L.apply L.client1 L.body1 L.bodyA L.meth (p := .pointer (some ⟨w2.heap.size, 0, none⟩)) ⟨rfl, rfl⟩ hb4) ?_
      rintro e w5 ⟨rfl, hb5, hm5⟩
      refine ⟨_, rfl, go1 (v := .pointer (some ⟨w4.heap.size, 0, none⟩)) rfl (by simp) (goEnd ?_)⟩
      simp only [thenC]
      refine rest _ w5 w4.heap.size (.pointer (some ⟨w2.heap.size, 0, none⟩)) (by simp) (by simp) (by simp) (hm02.trans (hm3.trans (hm4.trans hm5))) hb5 ⟨_, rfl, ?_⟩
      have := (hb3.mod (hm4.trans hm5) (by simp)).cell 0
      simpa using this
  intro σ w3 B p s1 s2 s7 hm03 hb hp
  rw [wpC_seq, wpC_blk]
  refine go1 (v := .pointer (some ⟨B, 0, none⟩)) rfl (by simp [s7]) ?_
  refine go1 (v := .iface T rv) rfl (by simp [s1]) ?_
  refine go1 (v := .int .i32 num) rfl (by simp [s2]) ?_
  refine goCall rfl (vs := [.pointer (some ⟨B, 0, none⟩), .slice none 0 0, .iface T rv, .int .i32 num]) (by simp) (fmtReq_call L.mixed L.req L.i16 L.u16 L.i32 L.u32 L.nstr L.str hb hp (hR w3 hm03) hk7 hlen) ?_
  rintro e w6 ⟨dv, rfl, hd6, hm6⟩
  refine ⟨_, rfl, go1 (v := dv) rfl (by simp) (goEnd ?_)⟩
  simp only [thenC]
  exact ret1 (by simp) ⟨dv, rfl, hd6.low hm03.size, hm03.trans hm6⟩
def keyCode (k : Int) : IC × List RV × Nat := (.seq (.blk [⟨some 2, .mv (.const (.int .i16 0)), none⟩]) (.seq (.blk [⟨some 2, .mv (.const (.int .i16 k)), none⟩]) .ret), [.tmp 2], 3)
def verCode : IC × List RV × Nat :=
  (.seq (.blk [⟨some 2, .mv (.const (.int .i16 0)), none⟩]) (.seq (.blk [⟨some 3, .mv (.tmp 0), none⟩, ⟨some 4, .nilc (.tmp 3), none⟩, ⟨some 5, .fad (.tmp 4) 0, none⟩, ⟨some 6, .ld (.tmp 5), none⟩, ⟨some 2, .mv (.tmp 6), none⟩]) .ret), [.tmp 2], 7)
def flexCode (n : Int) : IC × List RV × Nat :=
  (.seq (.blk [⟨some 2, .mv (.const (.bool false)), none⟩]) (.seq (.blk [⟨some 3, .mv (.tmp 0), none⟩, ⟨some 4, .nilc (.tmp 3), none⟩, ⟨some 5, .fad (.tmp 4) 0, none⟩, ⟨some 6, .ld (.tmp 5), none⟩, ⟨some 7, .bin .geq (.tmp 6) (.const (.int .i16 n)), none⟩, ⟨some 2, .mv (.tmp 7), none⟩]) .ret), [.tmp 2], 8)
theorem key_call (hm : P.follows .mixedOrders = true) {f : FuncId} {k : Int} (h : liftF P f = some (keyCode k)) {w : World} {v : Value} : Calls P f [v].toArray w fun e w' => e = .returned (.int .i16 k) ∧ Mod [] w w' := by
  unfold keyCode at h
  refine call_of h hm (by simp) ?_
  rw [wpC_seq, wpC_blk]
  refine go1 (v := .int .i16 0) rfl (by simp) (goEnd ?_)
  simp only [thenC]
  rw [wpC_seq, wpC_blk]
  refine go1 (v := .int .i16 k) rfl (by simp) (goEnd ?_)
  simp only [thenC]
  exact ret1 (by simp) ⟨rfl, Mod.refl _ _⟩
theorem ver_call (hm : P.follows .mixedOrders = true) {f : FuncId} (h : liftF P f = some verCode) {w : World} {B : Nat} {n : Int} (hc : w.cell? ⟨B, 0, none⟩ = some (.int .i16 n)) :
    Calls P f [.pointer (some ⟨B, 0, none⟩)].toArray w fun e w' => e = .returned (.int .i16 n) ∧ Mod [] w w' := by
  unfold verCode at h
  refine call_of h hm (by simp) ?_
  rw [wpC_seq, wpC_blk]
  refine go1 (v := .int .i16 0) rfl (by simp) (goEnd ?_)
  simp only [thenC]
  rw [wpC_seq, wpC_blk]
  refine go1 (v := .pointer (some ⟨B, 0, none⟩)) rfl (by simp) ?_
  refine go1 (v := .pointer (some ⟨B, 0, none⟩)) rfl (by simp) ?_
  refine go1 (v := .pointer (some ⟨B, 0, none⟩)) rfl (by simp) ?_
  refine go1 (v := .int .i16 n) rfl (by simp [hc]) ?_
  refine go1 (v := .int .i16 n) rfl (by simp) (goEnd ?_)
  simp only [thenC]
  exact ret1 (by simp) ⟨rfl, Mod.refl _ _⟩
theorem flex_call (hm : P.follows .mixedOrders = true) {f : FuncId} {k : Int} (h : liftF P f = some (flexCode k)) {w : World} {B : Nat} {n : Int} (hc : w.cell? ⟨B, 0, none⟩ = some (.int .i16 n)) :
    Calls P f [.pointer (some ⟨B, 0, none⟩)].toArray w fun e w' => e = .returned (.bool (decide (n ≥ k))) ∧ Mod [] w w' := by
  unfold flexCode at h
  refine call_of h hm (by simp) ?_
  rw [wpC_seq, wpC_blk]
  refine go1 (v := .bool false) rfl (by simp) (goEnd ?_)
  simp only [thenC]
  rw [wpC_seq, wpC_blk]
  refine go1 (v := .pointer (some ⟨B, 0, none⟩)) rfl (by simp) ?_
  refine go1 (v := .pointer (some ⟨B, 0, none⟩)) rfl (by simp) ?_
  refine go1 (v := .pointer (some ⟨B, 0, none⟩)) rfl (by simp) ?_
  refine go1 (v := .int .i16 n) rfl (by simp [hc]) ?_
  refine go1 (v := .bool (decide (n ≥ k))) rfl (by simp [intBin]) ?_
  refine go1 (v := .bool (decide (n ≥ k))) rfl (by simp) (goEnd ?_)
  simp only [thenC]
  exact ret1 (by simp) ⟨rfl, Mod.refl _ _⟩
end
end Go.Msk

namespace Go.Msk
open Go.RowKit
set_option maxRecDepth 100000
def frmCode (newp setv rf frd : FuncId) (T : TypeId) : IC × List RV × Nat :=
  (.seq (.blk [⟨some 4, .box (.tmp 0), none⟩, ⟨some 8, .mv (.const (.slice none 0 0)), none⟩, ⟨some 9, .mv (.const (.bool false)), none⟩])
    (.seq (.blk [⟨some 11, .call newp [], none⟩, ⟨some 10, .mv (.tmp 11), none⟩])
    (.seq (.blk [⟨some 12, .mv (.tmp 10), none⟩, ⟨some 13, .mv (.tmp 2), none⟩, ⟨some 14, .conv .i16 (.tmp 13), none⟩, ⟨some 15, .call setv [.tmp 12, .tmp 14], none⟩])
    (.seq (.seq (.blk [⟨some 16, .mv (.tmp 10), none⟩, ⟨some 17, .mv (.tmp 3), none⟩, ⟨some 18, .append (.const (.slice none 0 0)) (.tmp 17) 1 1, none⟩, ⟨some 19, .call rf [.tmp 16, .tmp 18], none⟩, ⟨some 20, .isnil .ic true (.tmp 19), none⟩])
      (.cond (.tmp 20) (.seq (.blk [⟨some 8, .mv (.const (.slice none 0 0)), none⟩, ⟨some 9, .mv (.const (.bool false)), none⟩]) .ret) .skip))
    (.seq (.blk [⟨some 21, .ldn (.tmp 4) 2, none⟩, ⟨some 22, .mv (.tmp 10), none⟩, ⟨some 23, .mkif T (.tmp 22), none⟩, ⟨some 24, .mv (.tmp 1), none⟩, ⟨some 25, .call frd [.tmp 21, .tmp 23, .tmp 24], none⟩, ⟨some 8, .mv (.tmp 25), none⟩, ⟨some 9, .mv (.const (.bool true)), none⟩])
    .ret)))), [.tmp 8, .tmp 9], 26)
structure MethC (P : Program) (ty : TypeId) (A : ATop) (key : Int) : Prop where
  k : ∃ f, methOf P ty "Key" = some f ∧ hasBody P f = true ∧ liftF P f = some (keyCode key)
  v : ∃ f, methOf P ty "GetVersion" = some f ∧ hasBody P f = true ∧ liftF P f = some verCode
  x : ∃ f n, A.flex = some n ∧ methOf P ty "IsFlexible" = some f ∧ hasBody P f = true ∧ liftF P f = some (flexCode n)
  a : ∃ f, methOf P ty "AppendTo" = some f ∧ hasBody P f = true ∧ liftF P f = some A.gen
section
variable {P : Program} {F : Nat → Nat}
attribute [local simp] gOk updo upd ev RK.val? isShift intBin Addr.add_mk args0 Value.cells undef
theorem MethC.req {ty : TypeId} {A : ATop} {key : Int} (hm : P.follows .mixedOrders = true) (h : MethC P ty A key) {ver : Int} (hA : A.ap.Ok P A.flex.isSome (A.x ver)) {w : World} {B : Nat} {gs : List GV} {css : List (List Value)} (hfit : A.ap.Fit ver gs)
    (hb : Blk w B (.int .i16 ver :: css.flatten)) (hr : RepL [] w gs css) : ReqC P ty (.pointer (some ⟨B, 0, none⟩)) w key ver (A.x ver) (A.ap.enc ver (A.x ver) gs) where
  k := by
    obtain ⟨f, h1, h2, h3⟩ := h.k
    exact ⟨f, h1, h2, fun w1 _ => key_call hm h3⟩
  v := by
    obtain ⟨f, h1, h2, h3⟩ := h.v
    exact ⟨f, h1, h2, fun w1 h4 => ver_call hm h3 (by simpa using (hb.mod h4 (by simp)).cell 0)⟩
  x := by
    obtain ⟨f, n, h0, h1, h2, h3⟩ := h.x
    have e : A.x ver = decide (ver ≥ n) := by unfold ATop.x; rw [h0]
    exact ⟨f, h1, h2, fun w1 h4 => by rw [e]; exact flex_call hm h3 (by simpa using (hb.mod h4 (by simp)).cell 0)⟩
  a := by
    obtain ⟨f, h1, h2, h3⟩ := h.a
    exact ⟨f, h1, h2, fun w1 dv l h4 hd hl => ATop.call (T := A) hm h3 hA hb.cells hr hfit h4 hd hl⟩
theorem frm_call {T : Top} {A : ATop} {D : Dec} {g : Nat} (L : FrLib P F) {f newp setv rf rd : FuncId} {ty : TypeId} {z : List Value} (h : liftF P f = some (frmCode newp setv rf (F iFramed) ty)) (hn : liftF P newp = some (newCode z T.dfl))
    (hz : DfC P T.dfl z (.int .i16 0 :: T.sc.dcs.flatten)) (hs : liftF P setv = some setCode) (hr : liftF P rf = some (rfCode rd false)) (hrd : liftF P rd = some T.gen) (hT : T.Ok P D g false) {key : Int} (hM : MethC P ty A key) (hk7 : key ≠ 7)
    {w : World} {has : Bool} {text : List UInt8} {num ver : Int} {sv : Value} {ls : List UInt8} {ok : Nat → Prop} {Te : TypeId} {ve : Value} {gs : List GV} {s' : RS} (hA : A.ap.Ok P A.flex.isSome (A.x ver)) (hdec : T.dec D ver (⟨ls, false, false⟩) = some ((ver, gs), s')) (hbad : s'.bad = false) (hfit : A.ap.Fit ver gs)
    (hsv : SlC ok w sv ls.length (u8s ls)) (hpos : 0 < ls.length) (hl : ls.length ≤ lim) (hll : (frameP key ver num (if has then some text else none) (A.x ver) (A.ap.enc ver (A.x ver) gs)).length ≤ lim) (hver : IntKind.i16.wrap ver = ver) (hg : GErr g w Te ve) :
    Calls P f [.agg #[.bool has, str text], .int .i32 num, .int .i64 ver, sv].toArray w fun e w' => ∃ v', e = .returned (.tuple #[v', .bool true]) ∧
      SlC (fun b => w.heap.size ≤ b) w' v' (frameP key ver num (if has then some text else none) (A.x ver) (A.ap.enc ver (A.x ver) gs)).length (u8s (frameP key ver num (if has then some text else none) (A.x ver) (A.ap.enc ver (A.x ver) gs))) ∧ Mod [] w w' := by
  have hm := L.mixed
  unfold frmCode at h
  refine call_of h hm (by simp) ?_
  clear h
  have hgl : g < w.heap.size := World.block_lt_of_cell? w ⟨g, 0, none⟩ hg
  rw [wpC_seq, wpC_blk]
  refine goBox (v := .agg #[.bool has, str text]) (by simp) fun wb hbb hmb => ?_
  refine go1 (v := .slice none 0 0) rfl (by simp) ?_
  refine go1 (v := .bool false) rfl (by simp) (goEnd ?_)
  simp only [thenC]
  rw [wpC_seq, wpC_blk]
  refine goCall rfl (vs := []) rfl (new_call hm hn hz) ?_
  rintro e w1 ⟨rfl, hb1, hm1⟩
  refine ⟨_, rfl, go1 (v := .pointer (some ⟨wb.heap.size, 0, none⟩)) rfl (by simp) (goEnd ?_)⟩
  simp only [thenC]
  rw [wpC_seq, wpC_blk]
  refine go1 (v := .pointer (some ⟨wb.heap.size, 0, none⟩)) rfl (by simp) ?_
  refine go1 (v := .int .i64 ver) rfl (by simp) ?_
  refine go1 (v := .int .i16 ver) rfl (by simp [hver]) ?_
  refine goCall rfl (vs := [.pointer (some ⟨wb.heap.size, 0, none⟩), .int .i16 ver]) (by simp) (set_call hm hs hb1) ?_
  rintro e w2 ⟨rfl, hb2, hm2⟩
  refine ⟨_, rfl, goEnd ?_⟩
  simp only [thenC]
  have hmb2 : Mod [] wb w2 := Mod.drop (b := wb.heap.size) (S := []) (hm1.nil.trans hm2) (Nat.le_refl _)
  have hm02 : Mod [] w w2 := hmb.trans hmb2
  rw [wpC_seq, wpC_seq, wpC_blk]
  refine go1 (v := .pointer (some ⟨wb.heap.size, 0, none⟩)) rfl (by simp) ?_
  refine go1 (v := sv) rfl (by simp) ?_
  refine goCopy (v := sv) (l := ls) (ok := ok) (by simp) (hsv.mod hm02 (by simp) fun _ _ h => h) hl fun v3 w3 hd3 hm3 => ?_
  obtain ⟨Bs, cap, rest, rfl, hcap, hlow, hblk, hrest⟩ : ∃ B cap rest, v3 = .slice (some ⟨B, 0, none⟩) ls.length cap ∧ ls.length ≤ cap ∧ w2.heap.size ≤ B ∧ Blk w3 B (u8s ls ++ rest) ∧ rest.length = cap - ls.length := by
    rcases hd3.sl with ⟨-, h⟩ | h
    · rw [h] at hpos; simp at hpos
    · exact h
  have hby : IsBytes w3 (some ⟨Bs, 0, none⟩) ls.length cap ls := by
    refine ⟨rfl, hcap, by simp, fun a ha => ?_⟩
    simp only [Option.some.injEq] at ha; subst ha
    have := hblk.cells.take (u8s ls).length
    rwa [List.take_left] at this
  have hbl := hb2.lt
  have hsz := hmb.size
  have hmb3 : Mod [] wb w3 := hmb2.trans hm3
  have hm23 : Mod [] w w3 := hm02.trans hm3
  refine goCall rfl (vs := [.pointer (some ⟨wb.heap.size, 0, none⟩), .slice (some ⟨Bs, 0, none⟩) ls.length cap]) (by simp) (rf_call hm hr (R := fun e w' => ∃ css, e = .returned .nilIface ∧ RepL [wb.heap.size] w' gs css ∧ Blk w' wb.heap.size (.int .i16 ver :: css.flatten) ∧ Mod [wb.heap.size] w3 w') (fun e w' ⟨_, he, _⟩ => ⟨_, he⟩) ?_) ?_
  · refine (Top.read_call hm hrd hT (hb2.mod hm3 (by simp)) hby (fun a ha => ?_) (by unfold lim at hl; omega) (cell_mod hg hm23 (by simp)) (by omega)).mono ?_
    · simp only [Option.some.injEq] at ha; subst ha
      exact ⟨by show Bs ≠ _; omega, hblk.lt⟩
    · rintro e w' ⟨q1, q2⟩
      simp only [Option.isNone_some, hdec] at q2
      obtain ⟨rfl, css, q3, -, q4⟩ := q2
      exact ⟨css, by rw [hbad]; rfl, q3, q4, q1⟩
  rintro e w4 ⟨css, rfl, hrep, hb4, hm4⟩
  refine ⟨_, rfl, ?_⟩
  refine go1 (v := .bool false) rfl (by simp) (goEnd ?_)
  simp only [thenC]
  rw [wpC_cond_f (by simp), wpC_skip]
  simp only [thenC]
  have hmb4 : Mod [] wb w4 := Mod.drop (b := wb.heap.size) (S := []) (hmb3.nil.trans hm4) (Nat.le_refl _)
  have hm04 : Mod [] w w4 := hmb.trans hmb4
  have hid := cellsAt_of' (hbb.mod hmb4 (by simp)).cells (n := 2) (by simp)
  rw [wpC_seq, wpC_blk]
  refine go1 (v := .agg #[.bool has, str text]) rfl (by simp only [RK.val?, ev, updo, upd]; simp [hid, str]) ?_
  refine go1 (v := .pointer (some ⟨wb.heap.size, 0, none⟩)) rfl (by simp) ?_
  refine go1 (v := .iface ty (.pointer (some ⟨wb.heap.size, 0, none⟩))) rfl (by simp) ?_
  refine go1 (v := .int .i32 num) rfl (by simp) ?_
  refine goCall rfl (vs := [.agg #[.bool has, str text], .iface ty (.pointer (some ⟨wb.heap.size, 0, none⟩)), .int .i32 num]) (by simp)
    (framed_call L (fun w5 h5 => hM.req hm hA hfit (hb4.mod h5 (by simp)) ((hrep.weaken (by simp)).mod h5 (by simp))) hk7 hll) ?_
  rintro e w6 ⟨dv6, rfl, hd6, hm6⟩
  refine ⟨_, rfl, ?_⟩
  refine go1 (v := dv6) rfl (by simp) ?_
  refine go1 (v := .bool true) rfl (by simp) (goEnd ?_)
  simp only [thenC]
  refine ret2 (a := dv6) (b := .bool true) (by simp) (by simp) ⟨dv6, rfl, ?_, hm04.trans hm6⟩
  have := hd6.slc
  exact this.mod (Mod.refl [] _) (by simp) fun b _ hb => Nat.le_trans hm04.size hb
end
end Go.Msk

namespace Go.Msk
open Go.RowKit
set_option maxRecDepth 100000
section
variable {P : Program} {F : Nat → Nat}
attribute [local simp] gOk updo upd ev RK.val? isShift intBin Addr.add_mk args0 Value.cells undef
theorem encNStr_some (s : List UInt8) : encNStr false (some s) = beI 2 (s.length : Int) ++ s := by simp [encNStr]
theorem encNStr_none : encNStr false none = beI 2 (-1) := by simp [encNStr]
theorem goFixApp {t s u : Nat} {x : Operand} {g : FuncId} {k : Nat} {n : Int} {r : List RI} {σ : Sl} {w0 w : World} {dv : Value} {l : List UInt8} {Q : Sl → World → Prop} (hg : ∀ (w : World), Calls P g [.int .i64 n, .int .i64 (k : Nat)].toArray w (BytesR w (beI k n)))
    (hx : ev σ x = .int .i64 n) (ht : σ t = dv) (hts : t ≠ s) (hm0 : Mod [] w0 w) (hd : DRaw w w0.heap.size dv l) (hl : l.length + k ≤ lim)
    (hQ : ∀ v' sv w', DRaw w' w0.heap.size v' (l ++ beI k n) → Mod [] w0 w' → wpR P r (upd (upd σ s sv) u v') w' Q) :
    wpR P (⟨some s, .call g [x, .const (.int .i64 (k : Nat))], none⟩ :: ⟨some u, .append (.tmp t) (.tmp s) 1 1, none⟩ :: r) σ w Q := by
  refine goCall rfl (vs := [.int .i64 n, .int .i64 (k : Nat)]) (by simp only [List.map_cons, List.map_nil, hx]; simp) (hg w) ?_
  rintro e w1 ⟨sv, rfl, hd1, hm1⟩
  refine ⟨_, rfl, goC rfl ?_⟩
  refine append_run (n0 := w0.heap.size) (v := dv) (l := l) (k := beI k n) (by simp only [ev, updo, upd]; rw [if_neg hts, ht]) (hd.keep hm1) (hm0.trans hm1).size (by simpa [ev] using hd1.src) (by rw [beI_length]; exact hl) fun v2 w2 ha => ?_
  exact hQ v2 sv w2 ha.raw (ha.mod0 (hd.keep hm1) (hm0.trans hm1))
theorem frame_call (hm : P.follows .mixedOrders = true) (h : liftF P (F sFrame) = some (ir_sFrame F)) (hf : liftF P (F sFixed) = some (ir_sFixed F)) {w : World} {key ver num : Int} {has flex : Bool} {idv bv : Value} {text body : List UInt8} (hid : SlC anyB w idv text.length (u8s text)) (hbv : SlC anyB w bv body.length (u8s body))
    (hlen : (frameP key ver num (if has then some text else none) flex body).length ≤ lim) :
    Calls P (F sFrame) [.int .i64 key, .int .i64 ver, .int .i32 num, .bool has, idv, .bool flex, bv].toArray w (BytesR w (frameP key ver num (if has then some text else none) flex body)) := by
  unfold ir_sFrame at h
  refine call_of h hm (by simp) ?_
  clear h
  simp only [frameP, frameR, List.length_append, beI_length] at hlen
  rw [wpC_seq, wpC_blk]
  refine go1 (v := .slice none 0 0) rfl (by simp) (goEnd ?_)
  simp only [thenC]
  rw [wpC_seq, wpC_blk]
  refine go1 (v := .int .i64 key) rfl (by simp) ?_
  refine goCall rfl (vs := [.int .i64 key, .int .i64 (2 : Nat)]) (by simp) (fixed_call hm hf (n := key) (k := 2) (by omega)) ?_
  rintro e w1 ⟨d1, rfl, hd1, hm1⟩
  refine ⟨_, rfl, ?_⟩
  refine go1 (v := .int .i64 ver) rfl (by simp) ?_
  refine goFixApp (k := 2) (n := ver) (w0 := w) (dv := d1) (l := beI 2 key) (fun w => fixed_call hm hf (by omega)) (by simp) (by simp) (by omega) hm1 hd1 (by simp [beI_length, lim]) fun d2 s2 w2 hd2 hm2 => ?_
  refine go1 (v := d2) rfl (by simp) (goEnd ?_)
  simp only [thenC]
  rw [wpC_seq, wpC_blk]
  refine go1 (v := d2) rfl (by simp) ?_
  refine go1 (v := .int .i32 num) rfl (by simp) ?_
  refine go1 (v := .int .i64 (IntKind.i64.wrap num)) rfl (by simp) ?_
  refine goFixApp (k := 4) (n := IntKind.i64.wrap num) (w0 := w) (dv := d2) (l := beI 2 key ++ beI 2 ver) (fun w => fixed_call hm hf (by omega)) (by simp) (by simp) (by omega) hm2 hd2 (by simp [beI_length, lim]) fun d3 s3 w3 hd3 hm3 => ?_
  have e4 : beI 4 (IntKind.i64.wrap num) = beI 4 num := beI_mod 4 _ _ (by simp only [IntKind.wrap, IntKind.bits, IntKind.signed]; simp; omega)
  rw [e4] at hd3
  refine go1 (v := d3) rfl (by simp) (goEnd ?_)
  simp only [thenC]
  generalize hσ : updo _ (some 15) _ = σ
  have s3 : σ 3 = .bool has := by rw [← hσ]; simp
  have s4 : σ 4 = idv := by rw [← hσ]; simp
  have s5 : σ 5 = .bool flex := by rw [← hσ]; simp
  have s6 : σ 6 = bv := by rw [← hσ]; simp
  have s15 : σ 15 = d3 := by rw [← hσ]; simp
  clear hσ hd1 hd2 hm1 hm2
  -- what stands behind the name
  suffices rest : ∀ (σ : Sl) (w3 : World) (d3 : Value), σ 5 = .bool flex → σ 6 = bv → σ 15 = d3 → Mod [] w w3 → DRaw w3 w.heap.size d3 (beI 2 key ++ beI 2 ver ++ beI 4 num ++ encNStr false (if has then some text else none)) →
      wpC P (.seq (.seq (.blk [⟨some 37, .mv (.tmp 5), none⟩]) (.cond (.tmp 37) (.blk [⟨some 38, .mv (.tmp 15), none⟩, ⟨some 39, .bslice 1 [.int .u8 0] [(0, 1, .const (.int .u8 0))], none⟩, ⟨some 40, .append (.tmp 38) (.tmp 39) 1 1, none⟩, ⟨some 15, .mv (.tmp 40), none⟩]) .skip))
        (.seq (.blk [⟨some 41, .mv (.tmp 15), none⟩, ⟨some 42, .mv (.tmp 6), none⟩, ⟨some 43, .append (.tmp 41) (.tmp 42) 1 1, none⟩, ⟨some 15, .mv (.tmp 43), none⟩])
        (.seq (.blk [⟨some 44, .mv (.tmp 15), none⟩, ⟨some 45, .len (.tmp 44), none⟩, ⟨some 46, .call (F sFixed) [.tmp 45, .const (.int .i64 4)], none⟩, ⟨some 47, .mv (.tmp 15), none⟩, ⟨some 48, .append (.tmp 46) (.tmp 47) 1 1, none⟩, ⟨some 14, .mv (.tmp 48), none⟩]) .ret)))
        (postC [.tmp 14] (BytesR w (frameP key ver num (if has then some text else none) flex body))) σ w3 by
    rw [wpC_seq, wpC_seq, wpC_blk]
    refine go1 (v := .bool has) rfl (by simp [s3]) (goEnd ?_)
    simp only [thenC]
    cases has with
    | false =>
      rw [wpC_cond_f (by simp), wpC_blk]
      refine go1 (v := d3) rfl (by simp [s15]) ?_
      refine goFixApp (k := 2) (n := -1) (w0 := w) (dv := d3) (l := beI 2 key ++ beI 2 ver ++ beI 4 num) (fun w => fixed_call hm hf (by omega)) (by simp) (by simp) (by omega) hm3 hd3 (by simp [beI_length, lim]) fun d4 s4 w4 hd4 hm4 => ?_
      refine go1 (v := d4) rfl (by simp) (goEnd ?_)
      simp only [thenC]
      exact rest _ w4 d4 (by simp [s5]) (by simp [s6]) (by simp) hm4 (by simpa [encNStr_none] using hd4)
    | true =>
      obtain ⟨ib, ic, ei⟩ := hid.shape
      rw [wpC_cond_t (by simp), wpC_blk]
      simp only [if_true, encNStr_some, List.length_append, beI_length] at hlen
      refine go1 (v := d3) rfl (by simp [s15]) ?_
      refine go1 (v := idv) rfl (by simp [s4]) ?_
      refine go1 (v := .int .i64 (text.length : Nat)) rfl (by simp [ei]) ?_
      refine goFixApp (k := 2) (n := (text.length : Nat)) (w0 := w) (dv := d3) (l := beI 2 key ++ beI 2 ver ++ beI 4 num) (fun w => fixed_call hm hf (by omega)) (by simp) (by simp) (by omega) hm3 hd3 (by simp [beI_length, lim]) fun d4 sv4 w4 hd4 hm4 => ?_
      refine go1 (v := idv) rfl (by simp [s4]) ?_
      refine goC rfl (append_run (n0 := w.heap.size) (v := d4) (k := text) (by simp) hd4 hm4.size (by simpa using (hid.keep hm4).src) (by simp only [List.length_append, beI_length]; omega) fun d5 w5 ha => ?_)
      refine go1 (v := d5) rfl (by simp) (goEnd ?_)
      simp only [thenC]
      refine rest _ w5 d5 (by simp [s5]) (by simp [s6]) (by simp) (ha.mod0 hd4 hm4) ?_
      have := ha.raw
      simpa [encNStr_some, List.append_assoc] using this
  clear s3 s4 s5 s6 s15 hd3 hm3 e4
  intro σ w3 d3 s5 s6 s15 hm3 hd3
  suffices rest : ∀ (σ : Sl) (w3 : World) (d3 : Value), σ 6 = bv → σ 15 = d3 → Mod [] w w3 → DRaw w3 w.heap.size d3 (beI 2 key ++ beI 2 ver ++ beI 4 num ++ encNStr false (if has then some text else none) ++ (if flex then [0] else [])) →
      wpC P (.seq (.blk [⟨some 41, .mv (.tmp 15), none⟩, ⟨some 42, .mv (.tmp 6), none⟩, ⟨some 43, .append (.tmp 41) (.tmp 42) 1 1, none⟩, ⟨some 15, .mv (.tmp 43), none⟩])
        (.seq (.blk [⟨some 44, .mv (.tmp 15), none⟩, ⟨some 45, .len (.tmp 44), none⟩, ⟨some 46, .call (F sFixed) [.tmp 45, .const (.int .i64 4)], none⟩, ⟨some 47, .mv (.tmp 15), none⟩, ⟨some 48, .append (.tmp 46) (.tmp 47) 1 1, none⟩, ⟨some 14, .mv (.tmp 48), none⟩]) .ret))
        (postC [.tmp 14] (BytesR w (frameP key ver num (if has then some text else none) flex body))) σ w3 by
    rw [wpC_seq, wpC_seq, wpC_blk]
    refine go1 (v := .bool flex) rfl (by simp [s5]) (goEnd ?_)
    simp only [thenC]
    cases flex with
    | false =>
      rw [wpC_cond_f (by simp), wpC_skip]
      simp only [thenC]
      exact rest _ w3 d3 (by simp [s6]) (by simp [s15]) hm3 (by simpa using hd3)
    | true =>
      rw [wpC_cond_t (by simp), wpC_blk]
      refine go1 (v := d3) rfl (by simp [s15]) ?_
      refine goC rfl (bsliceB_run (bs := [0]) (by simp [fillL, zrep, splice, u8s]) rfl fun u w10 hu hm10 => ?_)
      refine goC rfl (append_run (n0 := w.heap.size) (v := d3) (k := [0]) (by simp) (hd3.keep hm10) (hm3.trans hm10).size (by simpa using hu) (by simp only [List.length_append, beI_length]; simp at hlen ⊢; omega) fun d11 w11 ha => ?_)
      refine go1 (v := d11) rfl (by simp) (goEnd ?_)
      simp only [thenC]
      exact rest _ w11 d11 (by simp [s6]) (by simp) (ha.mod0 (hd3.keep hm10) (hm3.trans hm10)) (by simpa using ha.raw)
  clear s5 s6 s15 hd3 hm3
  intro σ w3 d3 s6 s15 hm3 hd3
  rw [wpC_seq, wpC_blk]
  refine go1 (v := d3) rfl (by simp [s15]) ?_
  refine go1 (v := bv) rfl (by simp [s6]) ?_
  refine goC rfl (append_run (n0 := w.heap.size) (v := d3) (k := body) (by simp) hd3 hm3.size (by simpa using (hbv.keep hm3).src) (by simp only [List.length_append, beI_length]; omega) fun d5 w5 ha => ?_)
  have hd5 : DRaw w5 w.heap.size d5 (frameR key ver num (if has then some text else none) flex body) := by have := ha.raw; simpa [frameR, List.append_assoc] using this
  have hm5 := ha.mod0 hd3 hm3
  have hlr : (frameR key ver num (if has then some text else none) flex body).length + 4 ≤ lim := by simp only [frameR, List.length_append, beI_length]; omega
  refine go1 (v := d5) rfl (by simp) (goEnd ?_)
  simp only [thenC]
  obtain ⟨b5, c5, e5⟩ := hd5.slc.shape
  rw [wpC_seq, wpC_blk]
  refine go1 (v := d5) rfl (by simp) ?_
  refine go1 (v := .int .i64 ((frameR key ver num (if has then some text else none) flex body).length : Nat)) rfl (by simp [e5]) ?_
  refine goCall rfl (vs := [.int .i64 ((frameR key ver num (if has then some text else none) flex body).length : Nat), .int .i64 (4 : Nat)]) (by simp) (fixed_call hm hf (n := ((frameR key ver num (if has then some text else none) flex body).length : Nat)) (k := 4) (by omega)) ?_
  rintro e w6 ⟨d6, rfl, hd6, hm6⟩
  refine ⟨_, rfl, ?_⟩
  refine go1 (v := d5) rfl (by simp) ?_
  have hd56 := hd5.keep hm6
  refine goC rfl (append_run (n0 := w5.heap.size) (v := d6) (k := frameR key ver num (if has then some text else none) flex body) (by simp) hd6 hm6.size (by simpa using hd56.src) (by rw [beI_length]; omega) fun d7 w7 ha7 => ?_)
  refine go1 (v := d7) rfl (by simp) (goEnd ?_)
  simp only [thenC]
  exact ret1 (by simp) ⟨d7, rfl, by have := ha7.raw.low hm5.size; simpa [frameP] using this, hm5.trans (ha7.mod0 hd6 hm6)⟩
end
end Go.Msk

namespace Go.Msk
open Go.RowKit
set_option maxRecDepth 100000
def zz3Code : IC × List RV × Nat :=
  (.seq (.blk [⟨some 1, .box (.tmp 0), none⟩, ⟨some 2, .mv (.const (.bool false)), none⟩])
  (.seq (.seq (.blk [⟨some 3, .fad (.tmp 1) 1, none⟩, ⟨some 4, .ld (.tmp 3), none⟩, ⟨some 5, .len (.tmp 4), none⟩, ⟨some 6, .bin .gtr (.tmp 5) (.const (.int .i64 2147483647)), none⟩])
    (.cond (.tmp 6) (.seq (.blk [⟨some 2, .mv (.const (.bool false)), none⟩]) .ret) .skip))
  (.seq (.blk [⟨some 2, .mv (.const (.bool true)), none⟩]) .ret)), [.tmp 2], 7)
def zz2Code (z3 : FuncId) : IC × List RV × Nat :=
  (.seq (.blk [⟨some 2, .mv (.const (.bool false)), none⟩])
  (.seq (.seq (.blk [⟨some 5, .mv (.tmp 0), none⟩, ⟨some 6, .len (.tmp 5), none⟩, ⟨some 7, .bin .gtr (.tmp 6) (.const (.int .i64 2147483647)), none⟩])
    (.cond (.tmp 7) (.seq (.blk [⟨some 2, .mv (.const (.bool false)), none⟩]) .ret) .skip))
  (.seq (.seq (.blk [⟨some 8, .mv (.tmp 0), none⟩, ⟨some 9, .len (.tmp 8), none⟩, ⟨some 10, .mv (.const (.int .i64 0)), none⟩])
    (.block 0 (.loop (.seq (.blk [⟨some 11, .bin .lss (.tmp 10) (.tmp 9), none⟩])
        (.seq (.cond (.tmp 11) .skip (.exit 0))
        (.seq (.block 1 (.seq (.blk [⟨some 12, .iad (.tmp 8) (.tmp 10) 2, none⟩, ⟨some 13, .ldn (.tmp 12) 2, none⟩, ⟨some 4, .alloc [.int .u32 0, .slice none 0 0], none⟩, ⟨none, .st (.tmp 4) 2 (.tmp 13), none⟩])
            (.seq (.blk [⟨some 14, .ldn (.tmp 4) 2, none⟩, ⟨some 15, .call z3 [.tmp 14], none⟩, ⟨some 16, .lnot (.tmp 15), none⟩])
            (.cond (.tmp 16) (.seq (.blk [⟨some 2, .mv (.const (.bool false)), none⟩]) .ret) .skip))))
        (.blk [⟨some 17, .bin .add (.tmp 10) (.const (.int .i64 1)), none⟩, ⟨some 10, .mv (.tmp 17), none⟩])))))))
  (.seq (.blk [⟨some 2, .mv (.const (.bool true)), none⟩]) .ret))), [.tmp 2], 18)
def zz1Code (z2 : FuncId) : IC × List RV × Nat :=
  (.seq (.blk [⟨some 1, .box (.tmp 0), none⟩, ⟨some 2, .mv (.const (.bool false)), none⟩])
  (.seq (.seq (.blk [⟨some 3, .fad (.tmp 1) 1, none⟩, ⟨some 4, .ld (.tmp 3), none⟩, ⟨some 5, .len (.tmp 4), none⟩, ⟨some 6, .bin .gtr (.tmp 5) (.const (.int .i64 2147483647)), none⟩])
    (.cond (.tmp 6) (.seq (.blk [⟨some 2, .mv (.const (.bool false)), none⟩]) .ret) .skip))
  (.seq (.seq (.blk [⟨some 7, .fad (.tmp 1) 3, none⟩, ⟨some 8, .ld (.tmp 7), none⟩, ⟨some 9, .len (.tmp 8), none⟩, ⟨some 10, .bin .gtr (.tmp 9) (.const (.int .i64 2147483647)), none⟩])
    (.cond (.tmp 10) (.seq (.blk [⟨some 2, .mv (.const (.bool false)), none⟩]) .ret) .skip))
  (.seq (.seq (.blk [⟨some 11, .fad (.tmp 1) 4, none⟩, ⟨some 12, .ld (.tmp 11), none⟩, ⟨some 13, .call z2 [.tmp 12], none⟩, ⟨some 14, .lnot (.tmp 13), none⟩])
    (.cond (.tmp 14) (.seq (.blk [⟨some 2, .mv (.const (.bool false)), none⟩]) .ret) .skip))
  (.seq (.blk [⟨some 2, .mv (.const (.bool true)), none⟩]) .ret)))), [.tmp 2], 15)
def BoolR (w : World) : Ending → World → Prop := fun e w' => ∃ b, e = .returned (.bool b) ∧ Mod [] w w'
section
variable {P : Program}
attribute [local simp] gOk updo upd ev RK.val? isShift intBin Addr.add_mk args0 Value.cells undef
theorem zz3_call (hm : P.follows .mixedOrders = true) {f : FuncId} (h : liftF P f = some zz3Code) {w : World} {k : Value} {n : Nat} {b : Option Addr} {c : Nat} : Calls P f [.agg #[k, .slice b n c]].toArray w (BoolR w) := by
  unfold zz3Code at h
  refine call_of h hm (by simp) ?_
  clear h
  rw [wpC_seq, wpC_blk]
  refine goBox (v := .agg #[k, .slice b n c]) (by simp) fun w1 hb1 hm1 => ?_
  have hb1 : Blk w1 w.heap.size [k, .slice b n c] := by simpa using hb1
  have c1 := fun j => hb1.cell j
  refine go1 (v := .bool false) rfl (by simp) (goEnd ?_)
  simp only [thenC]
  rw [wpC_seq, wpC_seq, wpC_blk]
  refine go1 (v := .pointer (some ⟨w.heap.size, 1, none⟩)) rfl (by simp) ?_
  refine go1 (v := .slice b n c) rfl (by simp [c1]) ?_
  refine go1 (v := .int .i64 (n : Nat)) rfl (by simp) ?_
  refine go1 (v := .bool (decide ((n : Int) > 2147483647))) rfl (by simp) (goEnd ?_)
  simp only [thenC]
  by_cases hc : (n : Int) > 2147483647
  · rw [wpC_cond_t (by simp [hc]), wpC_seq, wpC_blk]
    refine go1 (v := .bool false) rfl (by simp) (goEnd ?_)
    simp only [thenC]
    repeat first | refine retThen ?_ | refine retBlk ?_
    exact ret1 (v := .bool false) (by simp) ⟨_, rfl, hm1⟩
  · rw [wpC_cond_f (by simp [hc]), wpC_skip]
    simp only [thenC]
    rw [wpC_seq, wpC_blk]
    refine go1 (v := .bool true) rfl (by simp) (goEnd ?_)
    simp only [thenC]
    exact ret1 (v := .bool true) (by simp) ⟨_, rfl, hm1⟩
theorem zz2_call (hm : P.follows .mixedOrders = true) {f z3 : FuncId} (h : liftF P f = some (zz2Code z3)) (h3 : liftF P z3 = some zz3Code) {w : World} {v : Value} {u : List (Nat × List UInt8)} {uss : List (List Value)} (hv : SlC anyB w v u.length uss.flatten) (hu : RepU anyB w u uss) :
    Calls P f [v].toArray w (BoolR w) := by
  unfold zz2Code at h
  refine call_of h hm (by simp) ?_
  clear h
  obtain ⟨vb, vc, ev'⟩ := hv.shape
  have ul : u.length = uss.length := by
    clear hv ev'
    induction hu with
    | nil => rfl
    | cons _ _ ih => simp [ih]
  rw [wpC_seq, wpC_blk]
  refine go1 (v := .bool false) rfl (by simp) (goEnd ?_)
  simp only [thenC]
  rw [wpC_seq, wpC_seq, wpC_blk]
  refine go1 (v := v) rfl (by simp) ?_
  refine go1 (v := .int .i64 (u.length : Nat)) rfl (by simp [ev']) ?_
  refine go1 (v := .bool (decide ((u.length : Int) > 2147483647))) rfl (by simp) (goEnd ?_)
  simp only [thenC]
  by_cases hc : (u.length : Int) > 2147483647
  · rw [wpC_cond_t (by simp [hc]), wpC_seq, wpC_blk]
    refine go1 (v := .bool false) rfl (by simp) (goEnd ?_)
    simp only [thenC]
    repeat first | refine retThen ?_ | refine retBlk ?_
    exact ret1 (v := .bool false) (by simp) ⟨_, rfl, Mod.refl _ _⟩
  · rw [wpC_cond_f (by simp [hc]), wpC_skip]
    simp only [thenC]
    rw [wpC_seq, wpC_seq, wpC_blk]
    refine go1 (v := v) rfl (by simp) ?_
    refine go1 (v := .int .i64 (u.length : Nat)) rfl (by simp [ev']) ?_
    refine go1 (v := .int .i64 (0 : Nat)) rfl (by simp) (goEnd ?_)
    simp only [thenC]
    refine rangeLoop (n := u.length) (fun j σ w' => σ 8 = v ∧ σ 10 = .int .i64 (j : Nat) ∧ σ 9 = .int .i64 (u.length : Nat) ∧ Mod [] w w') (by omega) (by omega) (fun j σ w h => ⟨h.2.1, h.2.2.1⟩) ?_ ?_ ?_
    · exact ⟨by simp, by simp, by simp, Mod.refl _ _⟩
    · rintro j σ w1 hj ⟨k8, k10, k9, hm1⟩
      have hsh : ∀ {u : List (Nat × List UInt8)} {uss : List (List Value)}, RepU anyB w u uss → ∀ c ∈ uss, ∃ a b n d, c = [a, .slice b n d] := by
        intro u uss h
        induction h with
        | nil => simp
        | cons h _ ih =>
          intro c hc
          rcases List.mem_cons.1 hc with rfl | hc
          · obtain ⟨b, d, e⟩ := h.shape
            exact ⟨_, b, _, d, by rw [e]⟩
          · exact ih c hc
      have hc1 : uss[j]? = some uss[j] := List.getElem?_eq_getElem (by omega)
      obtain ⟨ka, kb, kn, kd, ek⟩ := hsh hu _ (List.mem_of_getElem? hc1)
      have hsz : ∀ c ∈ uss, c.length = 2 := fun c hc => by obtain ⟨a, b, n, d, rfl⟩ := hsh hu c hc; rfl
      obtain ⟨base, cap, e1, e2, e3, e4⟩ := hv
      cases base with
      | none => have := e3 rfl; omega
      | some a =>
        obtain ⟨-, q2, q3⟩ := e4 a rfl (by omega)
        obtain ⟨ab, ao, as⟩ := a
        have eb : as = none := q3.1
        subst eb
        have hce := q3.each hsz hc1
        rw [ek] at hce
        have hld := cellsAt_of' (hce.mod hm1 (.inr (by simp))) (show [ka, Value.slice kb kn kd].length = 2 from rfl)
        subst e1
        rw [wpC_seq, wpC_blk]
        refine go1 (v := .pointer (some ⟨ab, ao + j * 2, none⟩)) rfl (by simp [k8, k10, hj]) ?_
        refine go1 (v := .agg #[ka, .slice kb kn kd]) rfl (by simp [hld]) ?_
        refine goAlloc fun w2 hb2 hm2 => ?_
        have hone : ∀ y ∈ (Value.agg #[ka, .slice kb kn kd]).cells.toList, y.oneCell' = true := by
          have hku : ∀ {u : List (Nat × List UInt8)} {uss : List (List Value)}, RepU anyB w u uss → ∀ c ∈ uss, ∀ y ∈ c, y.oneCell' = true := by
            intro u uss h
            induction h with
            | nil => simp
            | cons h _ ih =>
              intro c hc y hy
              rcases List.mem_cons.1 hc with rfl | hc
              · simp only [List.mem_cons, List.not_mem_nil, or_false] at hy
                rcases hy with rfl | rfl
                · rfl
                · exact h.one
              · exact ih c hc y hy
          have := hku hu _ (List.mem_of_getElem? hc1)
          rw [ek] at this
          simpa using this
        refine goSt (b := w1.heap.size) (v := .agg #[ka, .slice kb kn kd]) (by simp) (by simp) hb2 (by simp) (by simp) hone fun w3 hb3 hm3 => goEnd ?_
        simp only [thenC]
        have hb3 : Blk w3 w1.heap.size [ka, .slice kb kn kd] := by simpa using hb3
        have hm13 : Mod [] w1 w3 := Mod.drop (b := w1.heap.size) (S := []) (hm2.nil.trans hm3) (Nat.le_refl _)
        have hld3 := cellsAt_of' hb3.cells (show [ka, Value.slice kb kn kd].length = 2 from rfl)
        rw [wpC_seq, wpC_blk]
        refine go1 (v := .agg #[ka, .slice kb kn kd]) rfl (by simp [hld3]) ?_
        refine goCall rfl (vs := [.agg #[ka, .slice kb kn kd]]) (by simp) (zz3_call hm h3) ?_
        rintro e w4 ⟨b, rfl, hm4⟩
        refine ⟨_, rfl, go1 (v := .bool !b) rfl (by simp) (goEnd ?_)⟩
        simp only [thenC]
        have hm04 := (hm1.trans hm13).trans hm4
        cases b with
        | false =>
          rw [wpC_cond_t (by simp), wpC_seq, wpC_blk]
          refine go1 (v := .bool false) rfl (by simp) (goEnd ?_)
          simp only [thenC]
          repeat first | refine retThen ?_ | refine retBlk ?_ | refine retRng ?_
          exact ret1 (v := .bool false) (by simp) ⟨_, rfl, hm04⟩
        | true =>
          rw [wpC_cond_f (by simp), wpC_skip]
          refine ⟨by simp [k10], by simp [k8], by simp, by simp [k9], hm04⟩
    · rintro σ w1 ⟨-, -, -, hm1⟩
      simp only [thenC]
      rw [wpC_seq, wpC_blk]
      refine go1 (v := .bool true) rfl (by simp) (goEnd ?_)
      simp only [thenC]
      exact ret1 (v := .bool true) (by simp) ⟨_, rfl, hm1⟩
theorem zz1_call (hm : P.follows .mixedOrders = true) {f z2 z3 : FuncId} (h : liftF P f = some (zz1Code z2)) (h2 : liftF P z2 = some (zz2Code z3)) (h3 : liftF P z3 = some zz3Code) {w : World} {t : TR} {ts : List Value} (ht : RepT anyB w t ts) :
    Calls P f [.agg ts.toArray].toArray w (BoolR w) := by
  unfold zz1Code at h
  refine call_of h hm (by simp) ?_
  clear h
  cases ht with
  | @mk n s null l u sv lv uv css uss q1 q2 q3 q4 q5 =>
  obtain ⟨b1, c1, e1⟩ := q1.shape
  obtain ⟨b2, c2, e2⟩ := q2.shape
  rw [wpC_seq, wpC_blk]
  refine goBox (v := .agg #[.int .i64 n, sv, .bool null, lv, uv]) (by simp) fun w1 hb1 hm1 => ?_
  have hb1 : Blk w1 w.heap.size [.int .i64 n, sv, .bool null, lv, uv] := by simpa using hb1
  have cc := fun j => hb1.cell j
  refine go1 (v := .bool false) rfl (by simp) (goEnd ?_)
  simp only [thenC]
  rw [wpC_seq, wpC_seq, wpC_blk]
  refine go1 (v := .pointer (some ⟨w.heap.size, 1, none⟩)) rfl (by simp) ?_
  refine go1 (v := sv) rfl (by simp [cc]) ?_
  refine go1 (v := .int .i64 (s.length : Nat)) rfl (by simp [e1]) ?_
  refine go1 (v := .bool (decide ((s.length : Int) > 2147483647))) rfl (by simp) (goEnd ?_)
  simp only [thenC]
  by_cases hc : (s.length : Int) > 2147483647
  · rw [wpC_cond_t (by simp [hc]), wpC_seq, wpC_blk]
    refine go1 (v := .bool false) rfl (by simp) (goEnd ?_)
    simp only [thenC]
    repeat first | refine retThen ?_ | refine retBlk ?_
    exact ret1 (v := .bool false) (by simp) ⟨_, rfl, hm1⟩
  rw [wpC_cond_f (by simp [hc]), wpC_skip]
  simp only [thenC]
  rw [wpC_seq, wpC_seq, wpC_blk]
  refine go1 (v := .pointer (some ⟨w.heap.size, 3, none⟩)) rfl (by simp) ?_
  refine go1 (v := lv) rfl (by simp [cc]) ?_
  refine go1 (v := .int .i64 (l.length : Nat)) rfl (by simp [e2]) ?_
  refine go1 (v := .bool (decide ((l.length : Int) > 2147483647))) rfl (by simp) (goEnd ?_)
  simp only [thenC]
  by_cases hc2 : (l.length : Int) > 2147483647
  · rw [wpC_cond_t (by simp [hc2]), wpC_seq, wpC_blk]
    refine go1 (v := .bool false) rfl (by simp) (goEnd ?_)
    simp only [thenC]
    repeat first | refine retThen ?_ | refine retBlk ?_
    exact ret1 (v := .bool false) (by simp) ⟨_, rfl, hm1⟩
  rw [wpC_cond_f (by simp [hc2]), wpC_skip]
  simp only [thenC]
  rw [wpC_seq, wpC_seq, wpC_blk]
  refine go1 (v := .pointer (some ⟨w.heap.size, 4, none⟩)) rfl (by simp) ?_
  refine go1 (v := uv) rfl (by simp [cc]) ?_
  refine goCall rfl (vs := [uv]) (by simp) (zz2_call hm h2 h3 (q4.keep hm1) (q5.mod hm1 (by simp) fun _ _ _ => trivial)) ?_
  rintro e w2 ⟨b, rfl, hm2⟩
  refine ⟨_, rfl, go1 (v := .bool !b) rfl (by simp) (goEnd ?_)⟩
  simp only [thenC]
  have hm02 := hm1.trans hm2
  cases b with
  | false =>
    rw [wpC_cond_t (by simp), wpC_seq, wpC_blk]
    refine go1 (v := .bool false) rfl (by simp) (goEnd ?_)
    simp only [thenC]
    repeat first | refine retThen ?_ | refine retBlk ?_
    exact ret1 (v := .bool false) (by simp) ⟨_, rfl, hm02⟩
  | true =>
    rw [wpC_cond_f (by simp), wpC_skip]
    simp only [thenC]
    rw [wpC_seq, wpC_blk]
    refine go1 (v := .bool true) rfl (by simp) (goEnd ?_)
    simp only [thenC]
    exact ret1 (v := .bool true) (by simp) ⟨_, rfl, hm02⟩
end
end Go.Msk

namespace Go.Msk
open Go.RowKit
set_option maxRecDepth 100000
def frReg (key : Int) (flx frm same : FuncId) : List DI := [⟨⟨some 46, .mv (.tmp 14), none⟩, false, []⟩, ⟨⟨some 47, .mv (.tmp 46), none⟩, false, []⟩, ⟨⟨some 48, .mv (.tmp 13), some (47, true)⟩, false, []⟩, ⟨⟨some 49, .mv (.tmp 11), some (47, true)⟩, false, []⟩, ⟨⟨some 50, .mv (.tmp 2), some (47, true)⟩, false, []⟩,
  ⟨⟨some 51, .fad (.tmp 5) 0, some (47, true)⟩, false, []⟩, ⟨⟨some 52, .ld (.tmp 51), some (47, true)⟩, false, []⟩, ⟨⟨some 53, .fad (.tmp 5) 1, some (47, true)⟩, false, []⟩, ⟨⟨some 54, .ld (.tmp 53), some (47, true)⟩, false, []⟩, ⟨⟨some 55, .s2b (.tmp 54), some (47, true)⟩, true, []⟩,
  ⟨⟨some 56, .ldn (.tmp 10) 2, some (47, true)⟩, false, []⟩, ⟨⟨some 57, .mv (.tmp 11), some (47, true)⟩, false, []⟩, ⟨⟨some 58, .call flx [.tmp 56, .tmp 57], some (47, true)⟩, true, []⟩, ⟨⟨some 59, .mv (.tmp 12), some (47, true)⟩, false, []⟩,
  ⟨⟨some 60, .call frm [.const (.int .i64 key), .tmp 49, .tmp 50, .tmp 52, .tmp 55, .tmp 58, .tmp 59], some (47, true)⟩, true, [9, 12]⟩, ⟨⟨some 61, .call same [.tmp 48, .tmp 60], some (47, true)⟩, true, [9, 12, 14]⟩,
  ⟨⟨some 62, .pick (.tmp 47) (.tmp 61) (.const (.bool false)), none⟩, false, [9, 12, 14, 15]⟩, ⟨⟨some 8, .mv (.tmp 62), none⟩, false, [9, 12, 14, 15]⟩]
def frLaw (key : Int) (z4 zz mx sm ver wr door flx frm same : FuncId) : IC × List RV × Nat :=
  (.seq (.blk [⟨some 5, .box (.tmp 1), none⟩, ⟨some 7, .box (.tmp 3), none⟩, ⟨some 8, .mv (.const (.bool false)), none⟩])
  (.seq (.seq (.blk [⟨some 15, .ldn (.tmp 5) 2, none⟩, ⟨some 16, .call z4 [.tmp 15], none⟩, ⟨some 17, .lnot (.tmp 16), none⟩, ⟨some 18, .mv (.tmp 17), none⟩,
        ⟨some 19, .ldn (.tmp 7) 5, some (18, false)⟩, ⟨some 20, .call zz [.tmp 19], some (18, false)⟩, ⟨some 21, .lnot (.tmp 20), some (18, false)⟩, ⟨some 22, .pick (.tmp 18) (.const (.bool true)) (.tmp 21), none⟩])
    (.cond (.tmp 22) (.seq (.blk [⟨some 8, .mv (.const (.bool true)), none⟩]) .ret) .skip))
  (.seq (.blk [⟨some 23, .call mx [], none⟩, ⟨some 9, .mv (.tmp 23), none⟩])
  (.seq (.seq (.blk [⟨some 24, .mv (.tmp 9), none⟩, ⟨some 25, .bin .lss (.tmp 24) (.const (.int .i64 0)), none⟩])
    (.cond (.tmp 25) (.seq (.blk [⟨some 8, .mv (.const (.bool false)), none⟩]) .ret) .skip))
  (.seq (.blk [⟨some 26, .call sm [], none⟩, ⟨some 27, .mv (.tmp 0), none⟩, ⟨some 28, .mv (.tmp 9), none⟩, ⟨some 29, .call ver [.tmp 27, .tmp 28], none⟩, ⟨some 10, .alloc [.slice none 0 0, .int .i64 0], none⟩, ⟨none, .st (.tmp 10) 2 (.tmp 26), none⟩, ⟨some 11, .mv (.tmp 29), none⟩])
  (.seq (.seq (.blk [⟨some 30, .fad (.tmp 5) 1, none⟩, ⟨some 31, .ld (.tmp 30), none⟩, ⟨some 32, .slen (.tmp 31), none⟩, ⟨some 33, .bin .gtr (.tmp 32) (.const (.int .i64 32767)), none⟩])
    (.cond (.tmp 33) (.seq (.blk [⟨some 8, .mv (.const (.bool true)), none⟩]) .ret) .skip))
  (.seq (.blk [⟨some 34, .ldn (.tmp 10) 2, none⟩, ⟨some 35, .mv (.tmp 11), none⟩, ⟨some 36, .ldn (.tmp 7) 5, none⟩, ⟨some 37, .call wr [.tmp 34, .tmp 35, .tmp 36], none⟩, ⟨some 12, .mv (.tmp 37), none⟩])
  (.seq (.blk [⟨some 39, .ldn (.tmp 5) 2, none⟩, ⟨some 40, .mv (.tmp 2), none⟩, ⟨some 41, .mv (.tmp 11), none⟩, ⟨some 42, .mv (.tmp 12), none⟩, ⟨some 43, .call door [.tmp 39, .tmp 40, .tmp 41, .tmp 42], none⟩, ⟨some 38, .mv (.tmp 43), none⟩, ⟨some 44, .ext (.tmp 38) 0, none⟩, ⟨some 45, .ext (.tmp 38) 1, none⟩, ⟨some 13, .mv (.tmp 44), none⟩, ⟨some 14, .mv (.tmp 45), none⟩])
  (.seq (.drw (frReg key flx frm same) [])
  .ret)))))))), [.tmp 8], 63)
def zz4Code : IC × List RV × Nat :=
  (.seq (.blk [⟨some 1, .box (.tmp 0), none⟩, ⟨some 2, .mv (.const (.bool false)), none⟩])
  (.seq (.seq (.blk [⟨some 3, .fad (.tmp 1) 1, none⟩, ⟨some 4, .ld (.tmp 3), none⟩, ⟨some 5, .slen (.tmp 4), none⟩, ⟨some 6, .bin .gtr (.tmp 5) (.const (.int .i64 2147483647)), none⟩])
    (.cond (.tmp 6) (.seq (.blk [⟨some 2, .mv (.const (.bool false)), none⟩]) .ret) .skip))
  (.seq (.blk [⟨some 2, .mv (.const (.bool true)), none⟩]) .ret)), [.tmp 2], 7)
section
variable {P : Program} {F : Nat → Nat}
attribute [local simp] gOk updo upd ev RK.val? isShift intBin Addr.add_mk args0 Value.cells undef
theorem str_size (l : List UInt8) : (⟨l.toArray⟩ : ByteArray).size = l.length := by simp [ByteArray.size]
theorem zz4_call (hm : P.follows .mixedOrders = true) {f : FuncId} (h : liftF P f = some zz4Code) {w : World} {has : Bool} {text : List UInt8} : Calls P f [.agg #[.bool has, str text]].toArray w (BoolR w) := by
  unfold zz4Code at h
  refine call_of h hm (by simp) ?_
  clear h
  rw [wpC_seq, wpC_blk]
  refine goBox (v := .agg #[.bool has, str text]) (by simp) fun w1 hb1 hm1 => ?_
  have c1 := hb1.cell 1
  simp [str] at c1
  refine go1 (v := .bool false) rfl (by simp) (goEnd ?_)
  simp only [thenC]
  rw [wpC_seq, wpC_seq, wpC_blk]
  refine go1 (v := .pointer (some ⟨w.heap.size, 1, none⟩)) rfl (by simp) ?_
  refine go1 (v := str text) rfl (by simp [c1, str]) ?_
  refine go1 (v := .int .i64 (text.length : Nat)) rfl (by simp [str, str_size]) ?_
  refine go1 (v := .bool (decide ((text.length : Int) > 2147483647))) rfl (by simp) (goEnd ?_)
  simp only [thenC]
  by_cases hc : (text.length : Int) > 2147483647
  · rw [wpC_cond_t (by simp [hc]), wpC_seq, wpC_blk]
    refine go1 (v := .bool false) rfl (by simp) (goEnd ?_)
    simp only [thenC]
    repeat first | refine retThen ?_ | refine retBlk ?_
    exact ret1 (v := .bool false) (by simp) ⟨_, rfl, hm1⟩
  · rw [wpC_cond_f (by simp [hc]), wpC_skip]
    simp only [thenC]
    rw [wpC_seq, wpC_blk]
    refine go1 (v := .bool true) rfl (by simp) (goEnd ?_)
    simp only [thenC]
    exact ret1 (v := .bool true) (by simp) ⟨_, rfl, hm1⟩
def FrmOf (P : Program) (door : FuncId) (m : MD) (most key : Int) (g : Nat) (Te : TypeId) (ve : Value) : Prop :=
  ∀ (w : World) (ver num : Int) (t : TR) (has : Bool) (text : List UInt8) (sv : Value), t.kok → (writeP m ver t).length + 40000 ≤ lim → 0 ≤ ver → ver ≤ most → text.length ≤ 32767 → SlC anyB w sv (writeP m ver t).length (u8s (writeP m ver t)) → GErr g w Te ve →
    Calls P door [.agg #[.bool has, str text], .int .i32 num, .int .i64 ver, sv].toArray w fun e w' => ∃ v', e = .returned (.tuple #[v', .bool true]) ∧
      SlC anyB w' v' (frameP key ver num (if has then some text else none) (m.isFlex ver) (writeP m ver t)).length (u8s (frameP key ver num (if has then some text else none) (m.isFlex ver) (writeP m ver t))) ∧ Mod [] w w'
theorem frameP_len {key ver num : Int} {has flex : Bool} {text body : List UInt8} (ht : text.length ≤ 32767) (hb : body.length + 40000 ≤ lim) : (frameP key ver num (if has then some text else none) flex body).length ≤ lim := by
  have e : (encNStr false (if has then some text else none)).length ≤ 32769 := by
    cases has
    · simp [encNStr_none, beI_length]
    · simp [encNStr_some, beI_length]; omega
  have f : (if flex then [(0 : UInt8)] else []).length ≤ 1 := by cases flex <;> simp
  simp only [frameP, frameR, List.length_append, beI_length]
  omega
theorem fr_law (hm : P.follows .mixedOrders = true) {key : Int} {f z4 zz mx sm ver wr door flx frm same g : FuncId} (h : liftF P f = some (frLaw key z4 zz mx sm ver wr door flx frm same)) {m : MD} {most : Int} (hmost : 0 ≤ most ∧ most < 32768)
    (hz4 : liftF P z4 = some zz4Code)
    (hzz : ∀ (w : World) (t : TR) (ts : List Value), RepT anyB w t ts → Calls P zz [.agg ts.toArray].toArray w (BoolR w))
    (hmx : ∀ w, Calls P mx #[] w fun e w' => e = .returned (.int .i64 most) ∧ Mod [] w w')
    (hsm : ∀ w, Calls P sm #[] w fun e w' => ∃ cs, e = .returned (.agg cs.toArray) ∧ RepM anyB w' m cs ∧ Mod [] w w')
    (hver : ∀ w n, 0 ≤ n ∧ n < 256 → Calls P ver [.int .u8 n, .int .i64 most].toArray w fun e w' => e = .returned (.int .i64 (n % (most + 1))) ∧ w' = w)
    (hwr : ∀ (v : Int) (w : World) (ms : List Value) (t : TR) (ts : List Value), RepM anyB w m ms → RepT anyB w t ts → t.kok → (writeP m v t).length ≤ lim → Calls P wr [.agg ms.toArray, .int .i64 v, .agg ts.toArray].toArray w (BytesR w (writeP m v t)))
    {Te : TypeId} {ve : Value} (hdoor : FrmOf P door m most key g Te ve)
    (hflx : ∀ (v : Int) (w : World) (ms : List Value), RepM anyB w m ms → Calls P flx [.agg ms.toArray, .int .i64 v].toArray w fun e w' => e = .returned (.bool (m.isFlex v)) ∧ Mod [] w w')
    (hfrm : liftF P frm = some (ir_sFrame F)) (hfix : liftF P (F sFixed) = some (ir_sFixed F)) (hF : frm = F sFrame)
    (hsame : ∀ (w : World) (v1 v2 : Value) (l1 l2 : List UInt8), SlC anyB w v1 l1.length (u8s l1) → SlC anyB w v2 l2.length (u8s l2) → l1.length ≤ 4611686018427387904 → Calls P same [v1, v2].toArray w fun e w' => e = .returned (.bool (decide (l1 = l2))) ∧ Mod [] w w')
    {w : World} {n num : Int} (hn : 0 ≤ n ∧ n < 256) {has : Bool} {text : List UInt8} {t : TR} {ts : List Value} (ht : RepT anyB w t ts) (hk : t.kok) (hlen : ∀ v, (writeP m v t).length + 40000 ≤ lim) (hg : GErr g w Te ve) :
    Calls P f [.int .u8 n, .agg #[.bool has, str text], .int .i32 num, .agg ts.toArray].toArray w fun e w' => e = .returned (.bool true) ∧ Mod [] w w' := by
  subst hF
  unfold frLaw at h
  refine call_of h hm (by simp) ?_
  clear h
  have h5 := ht.five
  rw [wpC_seq, wpC_blk]
  refine goBox (v := .agg #[.bool has, str text]) (by simp) fun wa hba hma => ?_
  have hba : Blk wa w.heap.size [.bool has, str text] := by simpa [str] using hba
  refine goBox (v := .agg ts.toArray) (by simp) fun w1 hb1 hm1' => ?_
  have hb1 : Blk w1 wa.heap.size ts := by simpa using hb1
  have hm1 := hma.trans hm1'
  have hid1 : Blk w1 w.heap.size [.bool has, str text] := hba.mod hm1' (by simp)
  refine go1 (v := .bool false) rfl (by simp) (goEnd ?_)
  simp only [thenC]
  have hidl := fun (w' : World) (h : Mod [] w1 w') => cellsAt_of' (hid1.mod h (by simp)).cells (show [Value.bool has, str text].length = 2 from rfl)
  have hload := fun (w' : World) (h : Mod [] w1 w') => cellsAt_of' (hb1.mod h (by simp)).cells h5
  rw [wpC_seq, wpC_seq, wpC_blk]
  refine go1 (v := .agg #[.bool has, str text]) rfl (by simp only [RK.val?, ev, updo, upd]; simp [hidl w1 (Mod.refl _ _)]) ?_
  refine goCall rfl (vs := [.agg #[.bool has, str text]]) (by simp) (zz4_call hm hz4) ?_
  rintro e w2 ⟨zb4, rfl, hm2⟩
  refine ⟨_, rfl, ?_⟩
  refine go1 (v := .bool !zb4) rfl (by simp) ?_
  refine go1 (v := .bool !zb4) rfl (by simp) ?_
  cases zb4 with
  | false =>
    iterate 3 (refine go0 (by simp) ?_)
    refine go1 (v := .bool true) rfl (by simp) (goEnd ?_)
    simp only [thenC]
    rw [wpC_cond_t (by simp), wpC_seq, wpC_blk]
    refine go1 (v := .bool true) rfl (by simp) (goEnd ?_)
    simp only [thenC]
    repeat first | refine retThen ?_ | refine retBlk ?_
    exact ret1 (v := .bool true) (by simp) ⟨rfl, hm1.trans hm2⟩
  | true =>
  refine go1 (v := .agg ts.toArray) (by simp) (by simp [hload w2 hm2]) ?_
  refine goCall (by simp) (vs := [.agg ts.toArray]) (by simp) (hzz w2 t ts ((ht.keep hm1).keep hm2)) ?_
  rintro e w2' ⟨zb, rfl, hm2'⟩
  have hm12 := hm2.trans hm2'
  refine ⟨_, rfl, ?_⟩
  refine go1 (v := .bool !zb) (by simp) (by simp) ?_
  refine go1 (v := .bool !zb) rfl (by simp) (goEnd ?_)
  simp only [thenC]
  cases zb with
  | false =>
    rw [wpC_cond_t (by simp), wpC_seq, wpC_blk]
    refine go1 (v := .bool true) rfl (by simp) (goEnd ?_)
    simp only [thenC]
    repeat first | refine retThen ?_ | refine retBlk ?_
    exact ret1 (v := .bool true) (by simp) ⟨rfl, hm1.trans hm12⟩
  | true =>
  rw [wpC_cond_f (by simp), wpC_skip]
  simp only [thenC]
  rw [wpC_seq, wpC_blk]
  refine goCall rfl (vs := []) rfl (hmx w2') ?_
  rintro e w3 ⟨rfl, hm3⟩
  have hm13 := hm12.trans hm3
  refine ⟨_, rfl, go1 (v := .int .i64 most) rfl (by simp) (goEnd ?_)⟩
  simp only [thenC]
  rw [wpC_seq, wpC_seq, wpC_blk]
  refine go1 (v := .int .i64 most) rfl (by simp) ?_
  refine go1 (v := .bool false) rfl (by simp; omega) (goEnd ?_)
  simp only [thenC]
  rw [wpC_cond_f (by simp), wpC_skip]
  simp only [thenC]
  rw [wpC_seq, wpC_blk]
  refine goCall rfl (vs := []) rfl (hsm w3) ?_
  rintro e w4 ⟨cs, rfl, hrm, hm4⟩
  have hm14 := hm13.trans hm4
  refine ⟨_, rfl, ?_⟩
  obtain ⟨cv, cfl, rfl, hone⟩ : ∃ a b, cs = [a, .int .i64 b] ∧ a.oneCell' = true := by cases hrm with | mk q1 q2 => exact ⟨_, _, rfl, q1.one⟩
  refine go1 (v := .int .u8 n) rfl (by simp) ?_
  refine go1 (v := .int .i64 most) rfl (by simp) ?_
  refine goCall rfl (vs := [.int .u8 n, .int .i64 most]) (by simp) (hver w4 n hn) ?_
  rintro e w5 ⟨rfl, e5⟩
  subst e5
  refine ⟨_, rfl, ?_⟩
  refine goAlloc fun w6 hb6 hm6 => ?_
  refine goSt (b := w5.heap.size) (v := .agg #[cv, .int .i64 cfl]) (by simp) (by simp) hb6 (by simp) (by simp) (by
    intro y hy
    simp only [Value.cells, List.mem_cons, List.not_mem_nil, or_false] at hy
    rcases hy with rfl | rfl
    · exact hone
    · rfl) fun w7 hb7 hm7 => ?_
  have hb7 : Blk w7 w5.heap.size [cv, .int .i64 cfl] := by simpa using hb7
  have hm57 : Mod [] w5 w7 := Mod.drop (b := w5.heap.size) (S := []) (hm6.nil.trans hm7) (Nat.le_refl _)
  have hm17 := hm14.trans hm57
  have hm07 := hm1.trans hm17
  have hv0 : 0 ≤ n % (most + 1) := Int.emod_nonneg _ (by omega)
  have hv1 : n % (most + 1) ≤ most := by have := Int.emod_lt_of_pos n (show 0 < most + 1 by omega); omega
  generalize n % (most + 1) = vr at hv0 hv1 ⊢
  refine go1 (v := .int .i64 vr) rfl (by simp) (goEnd ?_)
  simp only [thenC]
  generalize hσ : updo _ (some 11) _ = σ
  have s2 : σ 2 = .int .i32 num := by rw [← hσ]; simp
  have s5 : σ 5 = .pointer (some ⟨w.heap.size, 0, none⟩) := by rw [← hσ]; simp
  have s7 : σ 7 = .pointer (some ⟨wa.heap.size, 0, none⟩) := by rw [← hσ]; simp
  have s10 : σ 10 = .pointer (some ⟨w5.heap.size, 0, none⟩) := by rw [← hσ]; simp
  have s11 : σ 11 = .int .i64 vr := by rw [← hσ]; simp
  clear hσ
  have c71 := (hid1.mod hm17 (by simp)).cell 1
  simp at c71
  rw [wpC_seq, wpC_seq, wpC_blk]
  refine go1 (v := .pointer (some ⟨w.heap.size, 1, none⟩)) rfl (by simp [s5]) ?_
  refine go1 (v := str text) rfl (by simp [c71]) ?_
  refine go1 (v := .int .i64 (text.length : Nat)) rfl (by simp [str, str_size]) ?_
  refine go1 (v := .bool (decide ((text.length : Int) > 32767))) rfl (by simp) (goEnd ?_)
  simp only [thenC]
  by_cases hc2 : (text.length : Int) > 32767
  · rw [wpC_cond_t (by simp [hc2]), wpC_seq, wpC_blk]
    refine go1 (v := .bool true) rfl (by simp) (goEnd ?_)
    simp only [thenC]
    repeat first | refine retThen ?_ | refine retBlk ?_
    exact ret1 (v := .bool true) (by simp) ⟨rfl, hm07⟩
  rw [wpC_cond_f (by simp [hc2]), wpC_skip]
  simp only [thenC]
  have htl : text.length ≤ 32767 := by omega
  have hmd := fun (w' : World) (h : Mod [] w7 w') => cellsAt_of' (hb7.mod h (by simp)).cells (show [cv, Value.int .i64 cfl].length = 2 from rfl)
  rw [wpC_seq, wpC_blk]
  refine go1 (v := .agg #[cv, .int .i64 cfl]) rfl (by simp [s10, hmd w7 (Mod.refl _ _)]) ?_
  refine go1 (v := .int .i64 vr) rfl (by simp [s11]) ?_
  refine go1 (v := .agg ts.toArray) rfl (by simp [s7, hload w7 hm17]) ?_
  refine goCall rfl (vs := [.agg [cv, .int .i64 cfl].toArray, .int .i64 vr, .agg ts.toArray]) (by simp) (hwr vr w7 _ t ts (hrm.keep hm57) (ht.keep hm07) hk (by have := hlen vr; omega)) ?_
  rintro e w8 ⟨sv, rfl, hsd, hm8⟩
  have hm08 := hm07.trans hm8
  have hm18 := hm17.trans hm8
  refine ⟨_, rfl, go1 (v := sv) rfl (by simp) (goEnd ?_)⟩
  simp only [thenC]
  have hsl : SlC anyB w8 sv (writeP m vr t).length (u8s (writeP m vr t)) := hsd.slc.any
  rw [wpC_seq, wpC_blk]
  refine go1 (v := .agg #[.bool has, str text]) rfl (by simp only [RK.val?, ev, updo, upd]; simp [s5, hidl w8 hm18]) ?_
  refine go1 (v := .int .i32 num) rfl (by simp [s2]) ?_
  refine go1 (v := .int .i64 vr) rfl (by simp [s11]) ?_
  refine go1 (v := sv) rfl (by simp) ?_
  refine goCall rfl (vs := [.agg #[.bool has, str text], .int .i32 num, .int .i64 vr, sv]) (by simp) (hdoor w8 vr num t has text sv hk (hlen vr) hv0 hv1 htl hsl (cell_mod hg hm08 (by simp))) ?_
  rintro e w9 ⟨ov, rfl, hov, hm9⟩
  have hm09 := hm08.trans hm9
  have hm19 := hm18.trans hm9
  refine ⟨_, rfl, ?_⟩
  refine go1 (v := .tuple #[ov, .bool true]) rfl (by simp) ?_
  refine go1 (v := ov) rfl (by simp) ?_
  refine go1 (v := .bool true) rfl (by simp) ?_
  refine go1 (v := ov) rfl (by simp) ?_
  refine go1 (v := .bool true) rfl (by simp) (goEnd ?_)
  simp only [thenC]
  generalize hσ : updo _ (some 14) _ = σ1
  have t2 : σ1 2 = .int .i32 num := by rw [← hσ]; simp [s2]
  have t5 : σ1 5 = .pointer (some ⟨w.heap.size, 0, none⟩) := by rw [← hσ]; simp [s5]
  have t10 : σ1 10 = .pointer (some ⟨w5.heap.size, 0, none⟩) := by rw [← hσ]; simp [s10]
  have t11 : σ1 11 = .int .i64 vr := by rw [← hσ]; simp [s11]
  have t12 : σ1 12 = sv := by rw [← hσ]; simp
  have t13 : σ1 13 = ov := by rw [← hσ]; simp
  have t14 : σ1 14 = .bool true := by rw [← hσ]; simp
  clear hσ s2 s5 s7 s10 s11
  rw [wpC_seq]
  simp only [wpC]
  have hmd9 : Mod [] w9 w9.drew := Mod.drew [] w9
  generalize w9.drew = wd at hmd9 ⊢
  have c0 := ((hid1.mod (hm19.trans hmd9) (by simp)).cell 0)
  have c1 := ((hid1.mod (hm19.trans hmd9) (by simp)).cell 1)
  simp [str] at c0 c1
  have hmdd := hmd wd (hm8.trans (hm9.trans hmd9))
  have hrmd : RepM anyB wd m [cv, .int .i64 cfl] := hrm.keep (hm57.trans (hm8.trans (hm9.trans hmd9)))
  have hovd := hov.keep hmd9
  have hsld := hsl.keep (hm9.trans hmd9)
  have hfl : (frameP key vr num (if has then some text else none) (m.isFlex vr) (writeP m vr t)).length ≤ lim := frameP_len htl (hlen vr)
  have hm0d := hm09.trans hmd9
  generalize hfr : frameP key vr num (if has then some text else none) (m.isFlex vr) (writeP m vr t) = fr at hovd hfl
  refine wpD_of_B (fun j v w' => if j = 9 then SlC anyB w' v text.length (u8s text) else if j = 12 then v = .bool (m.isFlex vr) else if j = 14 then SlC anyB w' v fr.length (u8s fr) else v = .bool true) (by
    intro j v w w' h hm
    split at h
    · rename_i hj; rw [if_pos hj]; exact h.keep hm
    · rename_i hj; rw [if_neg hj]
      split at h
      · rename_i hj; rw [if_pos hj]; exact h
      · rename_i hj; rw [if_neg hj]
        split at h
        · rename_i hj; rw [if_pos hj]; exact h.keep hm
        · rename_i hj; rw [if_neg hj]; exact h) ?_
  unfold frReg
  refine bo1 (v := .bool true) rfl (by simp [t14]) ?_
  refine bo1 (v := .bool true) rfl (by simp) ?_
  refine bo1 (v := ov) (by simp) (by simp [t13]) ?_
  refine bo1 (v := .int .i64 vr) (by simp) (by simp [t11]) ?_
  refine bo1 (v := .int .i32 num) (by simp) (by simp [t2]) ?_
  refine bo1 (v := .pointer (some ⟨w.heap.size, 0, none⟩)) (by simp) (by simp [t5]) ?_
  refine bo1 (v := .bool has) (by simp) (by simp [c0]) ?_
  refine bo1 (v := .pointer (some ⟨w.heap.size, 1, none⟩)) (by simp) (by simp [t5]) ?_
  refine bo1 (v := str text) (by simp) (by simp [c1, str]) ?_
  refine boN (by simp) (fun w1 hm1 _ => ?_) fun v9 _ => ?_
  · simp only [RK.run, ev, updo, upd, if_true, str]
    intro T cap rest hcap hrest
    rw [str_size] at hcap hrest ⊢
    have hblk := Blk.new' w1.drew (u8s text ++ rest) T (cap, cap + 1) (by simp only [List.length_append, u8s_length]; omega)
    refine ⟨(Mod.drew _ _).trans (Mod.alloc _ _ _), some ⟨w1.heap.size, 0, none⟩, cap, rfl, hcap, fun h => by simp at h, fun a ha _ => ?_⟩
    simp only [Option.some.injEq] at ha
    subst ha
    refine ⟨trivial, hblk.lt, ?_⟩
    have := hblk.cells.take (u8s text).length
    simpa using this
  refine bo1 (v := .agg #[cv, .int .i64 cfl]) (by simp) (by simp [t10, hmdd]) ?_
  refine bo1 (v := .int .i64 vr) (by simp) (by simp [t11]) ?_
  refine boCall (by simp) (vs := [.agg [cv, .int .i64 cfl].toArray, .int .i64 vr]) (by simp) (fun w1 hm1 _ => ?_) fun v12 ⟨_, hv12⟩ => ?_
  · refine (hflx vr w1 _ (hrmd.keep hm1)).mono ?_
    rintro e w' ⟨rfl, hm'⟩
    exact ⟨_, rfl, hm', by simp⟩
  simp at hv12
  subst hv12
  refine bo1 (v := sv) (by simp) (by simp [t12]) ?_
  refine boCall (by simp) (vs := [.int .i64 key, .int .i64 vr, .int .i32 num, .bool has, v9, .bool (m.isFlex vr), sv]) (by simp) (fun w1 hm1 hkn => ?_) fun v14 _ => ?_
  · have k9 := known_get (j := 9) (t := 55) (d := ⟨⟨some 55, .s2b (.tmp 54), some (47, true)⟩, true, []⟩) hkn (by simp) rfl rfl (by simp) rfl
    simp at k9
    refine (frame_call hm hfrm hfix (key := key) (ver := vr) (num := num) (has := has) (flex := m.isFlex vr) k9 (hsld.keep hm1) (by rw [hfr]; exact hfl)).mono ?_
    rintro e w' ⟨v, rfl, hd, hm'⟩
    rw [hfr] at hd
    exact ⟨v, rfl, hm', by simpa using hd.slc.any⟩
  refine boCall (by simp) (vs := [ov, v14]) (by simp) (fun w1 hm1 hkn => ?_) fun v15 ⟨_, hv15⟩ => ?_
  · have k14 := known_get (j := 14) (t := 60) (d := ⟨⟨some 60, .call (F sFrame) [.const (.int .i64 key), .tmp 49, .tmp 50, .tmp 52, .tmp 55, .tmp 58, .tmp 59], some (47, true)⟩, true, [9, 12]⟩) hkn (by simp) rfl rfl (by simp) rfl
    simp at k14
    refine (hsame w1 ov v14 fr fr (hovd.keep hm1) k14 (by unfold lim at hfl; omega)).mono ?_
    rintro e w' ⟨rfl, hm'⟩
    exact ⟨_, rfl, hm', by simp⟩
  simp at hv15
  subst hv15
  refine bo1 (v := .bool true) rfl (by simp) ?_
  refine bo1 (v := .bool true) rfl (by simp) ?_
  intro w1 hm1 _
  refine goEnd ?_
  simp only [thenC]
  exact post1 (v := .bool true) (by simp) ⟨rfl, hm0d.trans hm1⟩
end
end Go.Msk

namespace Go.Msk
open Go.RowKit
set_option maxRecDepth 100000
def decStd : Dec where
  len := fun x s => if x then rdCArrayLen s else rdArrayLen s
  prim := fun p x s => match p with
    | .bool => (.num (.bool (decide ((rdN 1 s).1 ≠ 0))), (rdN 1 s).2)
    | .i8 => (.num (.int .i8 (IntKind.i8.wrap (rdN 1 s).1)), (rdN 1 s).2)
    | .i16 => (.num (.int .i16 (IntKind.i16.wrap (rdN 2 s).1)), (rdN 2 s).2)
    | .u16 => (.num (.int .u16 (rdN 2 s).1), (rdN 2 s).2)
    | .i32 => (.num (.int .i32 (IntKind.i32.wrap (rdN 4 s).1)), (rdN 4 s).2)
    | .u32 => (.num (.int .u32 (rdN 4 s).1), (rdN 4 s).2)
    | .i64 => (.num (.int .i64 (IntKind.i64.wrap (rdN 8 s).1)), (rdN 8 s).2)
    | .uuid => (.arr (rdUuid s).1, (rdUuid s).2)
    | .str => if x then (.num (str (rdCString s).1), (rdCString s).2) else (.num (str (rdString s).1), (rdString s).2)
    | .nstr => if x then (.nstr (rdCNullableString s).1, (rdCNullableString s).2) else (.nstr (rdNullableString s).1, (rdNullableString s).2)
    | .byt => if x then (.byt (rdCBytes s).1, (rdCBytes s).2) else (.byt (rdBytes s).1, (rdBytes s).2)
    | .nbyt => if x then (.byt (rdCNullableBytes s).1, (rdCNullableBytes s).2) else (.byt (rdNullableBytes s).1, (rdNullableBytes s).2)
  tags := rdTags
structure Lib (P : Program) (F : Nat → Nat) (has : Nat → Bool) : Prop where
  mixed : P.follows .mixedOrders = true
  beUint16 : has Msk.beUint16 = true → liftF P (F Msk.beUint16) = some (ir_beUint16 F)
  beUint32 : has Msk.beUint32 = true → liftF P (F Msk.beUint32) = some (ir_beUint32 F)
  beUint64 : has Msk.beUint64 = true → liftF P (F Msk.beUint64) = some (ir_beUint64 F)
  kUvarint : has Msk.kUvarint = true → liftF P (F Msk.kUvarint) = some (ir_kUvarint F)
  kUnsafeString : has Msk.kUnsafeString = true → liftF P (F Msk.kUnsafeString) = some (ir_kUnsafeString F)
  rOk : has Msk.rOk = true → liftF P (F Msk.rOk) = some (ir_rOk F)
  rComplete : has Msk.rComplete = true → liftF P (F Msk.rComplete) = some (ir_rComplete F)
  rSpan : has Msk.rSpan = true → liftF P (F Msk.rSpan) = some (ir_rSpan F)
  rUvarint : has Msk.rUvarint = true → liftF P (F Msk.rUvarint) = some (ir_rUvarint F)
  rReadUint64 : has Msk.rReadUint64 = true → liftF P (F Msk.rReadUint64) = some (ir_rReadUint64 F)
  rBool : has Msk.rBool = true → liftF P (F Msk.rBool) = some (ir_rBool F)
  rInt8 : has Msk.rInt8 = true → liftF P (F Msk.rInt8) = some (ir_rInt8 F)
  rInt16 : has Msk.rInt16 = true → liftF P (F Msk.rInt16) = some (ir_rInt16 F)
  rUint16 : has Msk.rUint16 = true → liftF P (F Msk.rUint16) = some (ir_rUint16 F)
  rInt32 : has Msk.rInt32 = true → liftF P (F Msk.rInt32) = some (ir_rInt32 F)
  rInt64 : has Msk.rInt64 = true → liftF P (F Msk.rInt64) = some (ir_rInt64 F)
  rUuid : has Msk.rUuid = true → liftF P (F Msk.rUuid) = some (ir_rUuid F)
  rString : has Msk.rString = true → liftF P (F Msk.rString) = some (ir_rString F)
  rUnsafeString : has Msk.rUnsafeString = true → liftF P (F Msk.rUnsafeString) = some (ir_rUnsafeString F)
  rCompactString : has Msk.rCompactString = true → liftF P (F Msk.rCompactString) = some (ir_rCompactString F)
  rUnsafeCompactString : has Msk.rUnsafeCompactString = true → liftF P (F Msk.rUnsafeCompactString) = some (ir_rUnsafeCompactString F)
  rNullableString : has Msk.rNullableString = true → liftF P (F Msk.rNullableString) = some (ir_rNullableString F)
  rUnsafeNullableString : has Msk.rUnsafeNullableString = true → liftF P (F Msk.rUnsafeNullableString) = some (ir_rUnsafeNullableString F)
  rCompactNullableString : has Msk.rCompactNullableString = true → liftF P (F Msk.rCompactNullableString) = some (ir_rCompactNullableString F)
  rUnsafeCompactNullableString : has Msk.rUnsafeCompactNullableString = true → liftF P (F Msk.rUnsafeCompactNullableString) = some (ir_rUnsafeCompactNullableString F)
  rBytes : has Msk.rBytes = true → liftF P (F Msk.rBytes) = some (ir_rBytes F)
  rCompactBytes : has Msk.rCompactBytes = true → liftF P (F Msk.rCompactBytes) = some (ir_rCompactBytes F)
  rNullableBytes : has Msk.rNullableBytes = true → liftF P (F Msk.rNullableBytes) = some (ir_rNullableBytes F)
  rCompactNullableBytes : has Msk.rCompactNullableBytes = true → liftF P (F Msk.rCompactNullableBytes) = some (ir_rCompactNullableBytes F)
  rArrayLen : has Msk.rArrayLen = true → liftF P (F Msk.rArrayLen) = some (ir_rArrayLen F)
  rCompactArrayLen : has Msk.rCompactArrayLen = true → liftF P (F Msk.rCompactArrayLen) = some (ir_rCompactArrayLen F)
  tSet : has Msk.tSet = true → liftF P (F Msk.tSet) = some (ir_tSet F)
  tRead : has Msk.tRead = true → liftF P (F Msk.tRead) = some (ir_tRead F)
def hasAll (has : Nat → Bool) (l : List Nat) : Bool := l.all has
theorem hasAll_mem {has : Nat → Bool} {l : List Nat} (h : hasAll has l = true) : ∀ c ∈ l, has c = true := by
  unfold hasAll at h; rwa [List.all_eq_true] at h
def selOk (F : Nat → Nat) (has : Nat → Bool) (p : PK) (u x : Bool) (f : FuncId) : Bool :=
  let ok (c : Nat) (l : List Nat) : Bool := f == F c && hasAll has (c :: l)
  match p with
  | .bool => ok rBool []
  | .i8 => ok rInt8 []
  | .i16 => ok rInt16 [beUint16]
  | .u16 => ok rUint16 [beUint16]
  | .i32 => ok rInt32 [beUint32]
  | .u32 => false
  | .i64 => ok rInt64 [rReadUint64, beUint64]
  | .uuid => ok rUuid [rSpan]
  | .str => match u, x with
    | true, true => ok rUnsafeCompactString [rUvarint, kUvarint, rSpan, kUnsafeString]
    | true, false => ok rUnsafeString [rInt16, beUint16, rSpan, kUnsafeString]
    | false, true => ok rCompactString [rUvarint, kUvarint, rSpan]
    | false, false => ok rString [rInt16, beUint16, rSpan]
  | .nstr => match u, x with
    | true, true => ok rUnsafeCompactNullableString [rUvarint, kUvarint, rSpan, kUnsafeString]
    | true, false => ok rUnsafeNullableString [rInt16, beUint16, rSpan, kUnsafeString]
    | false, true => ok rCompactNullableString [rUvarint, kUvarint, rSpan]
    | false, false => ok rNullableString [rInt16, beUint16, rSpan]
  | .byt => if x then ok rCompactBytes [rUvarint, kUvarint, rSpan] else ok rBytes [rInt32, beUint32, rSpan]
  | .nbyt => if x then ok rCompactNullableBytes [rUvarint, kUvarint, rSpan] else ok rNullableBytes [rInt32, beUint32, rSpan]
def lenOk (F : Nat → Nat) (has : Nat → Bool) (x : Bool) (f : FuncId) : Bool :=
  if x then f == F rCompactArrayLen && hasAll has [rCompactArrayLen, rUvarint, kUvarint] else f == F rArrayLen && hasAll has [rArrayLen, rInt32, beUint32]
section
variable {P : Program} {F : Nat → Nat} {has : Nat → Bool} {f : FuncId}
theorem RdC.g {val : RS → Value × RS} (h : RdC P f val) (h1 : ∀ s, (val s).1.cells = #[(val s).1]) (h2 : ∀ s, (val s).1.oneCell' = true) : RdG P f 1 fun s => (.num (val s).1, (val s).2) :=
  fun S w rb s hr hrb _ => (h S w rb s hr hrb).mono fun e w' ⟨e1, e2, e3⟩ => ⟨_, e1, ⟨by rw [h1]; rfl, by rw [h1]; exact .num (h2 s)⟩, e2, e3⟩
theorem RdC.l {val : RS → Int × RS} (h : RdC P f fun s => (.int .i32 (val s).1, (val s).2)) : RdL P f val :=
  fun S w rb s hr hrb _ => (h S w rb s hr hrb).mono fun _e _w' ⟨e1, e2, e3⟩ => ⟨_, e1, rfl, e2, e3⟩
theorem OctX.cells {O : List Nat} {w : World} {v : Value} {o : Option (List UInt8)} (h : OctX O w v o) : v.cells = #[v] := by
  cases o with
  | none => have := h.1; simp only [IsOct] at this; subst this; rfl
  | some l => obtain ⟨a, n, c, rfl, -⟩ := h.1; rfl
theorem PStr.rep {O : List Nat} {n : Nat} {w : World} {v : Value} {o : Option (List UInt8)} (h : PStr n w v o) (hO : ∀ y ∈ O, y < n) : v.cells = #[v] ∧ Rep O w (.nstr o) [v] := by
  cases o with
  | none => simp only [PStr] at h; subst h; exact ⟨rfl, .nstr0⟩
  | some l =>
    obtain ⟨b, rfl, hb, hc⟩ := h
    exact ⟨rfl, .nstr1 (fun hx => by have := hO _ hx; omega) hc⟩
theorem i32_le (n : Int) : IntKind.i32.wrap n ≤ 2147483647 := by
  simp only [IntKind.wrap, IntKind.bits, IntKind.signed]; simp; split <;> omega
theorem rdCArrayLen_short (s : RS) : (rdCArrayLen s).1 ≤ (rdCArrayLen s).2.src.length ∧ (rdCArrayLen s).1 ≤ 2147483647 := by
  unfold rdCArrayLen; simp only
  split
  · simp
  · rename_i h; exact ⟨by simpa using h, i32_le _⟩
theorem decStd_short : decStd.Short := by
  intro x s
  simp only [decStd]
  split
  · exact rdCArrayLen_short s
  · simp only [rdArrayLen]
    split
    · simp
    · rename_i h; exact ⟨by simpa using h, i32_le _⟩
theorem byt_rd {dec : RS → Option (List UInt8) × RS} (h : ∀ (S : List Nat) (w : World) (rb : Nat) (s : RS), IsRd S w rb s → rb ∉ S → (∀ y ∈ S, y < w.heap.size) →
    Calls P f [.pointer (some ⟨rb, 0, none⟩)].toArray w fun e w' => ∃ v, e = .returned v ∧ OctX (rb :: S) w' v (dec s).1 ∧ IsRd S w' rb (dec s).2 ∧ Mod [rb] w w') : RdG P f 1 fun s => (.byt (dec s).1, (dec s).2) :=
  fun S w rb s hr hrb hS => (h S w rb s hr hrb hS).mono fun e w' ⟨v, e1, e2, e3, e4⟩ => ⟨v, e1, ⟨by rw [e2.cells]; rfl, by rw [e2.cells]; exact .byt e2⟩, e3, e4⟩
theorem nstr_rd {dec : RS → Option (List UInt8) × RS} (h : ∀ (S : List Nat) (w : World) (rb : Nat) (s : RS), IsRd S w rb s → rb ∉ S →
    Calls P f [.pointer (some ⟨rb, 0, none⟩)].toArray w fun e w' => ∃ v, e = .returned v ∧ PStr w.heap.size w' v (dec s).1 ∧ IsRd S w' rb (dec s).2 ∧ Mod [rb] w w') : RdG P f 1 fun s => (.nstr (dec s).1, (dec s).2) :=
  fun S w rb s hr hrb hS => (h S w rb s hr hrb).mono fun e w' ⟨v, e1, e2, e3, e4⟩ => by
    obtain ⟨k1, k2⟩ := e2.rep (O := rb :: S) (fun y hy => by
      rcases List.mem_cons.1 hy with rfl | hy
      · exact hr.lt
      · exact hS y hy)
    exact ⟨v, e1, ⟨by rw [k1]; rfl, by rw [k1]; exact k2⟩, e3, e4⟩
variable (L : Lib P F has)
include L
theorem ok_std (h : has rOk = true) : OkC P (F rOk) := fun _S _w _rb _s hr => rOk_call L.mixed (L.rOk h) hr
theorem cpl_std (h : has rComplete = true) : CplC P (F rComplete) (F gErr) := fun _S _w _rb _s _T _v hr hg => rComplete_call L.mixed (L.rComplete h) hr hg
theorem tags_std (h : hasAll has [tRead, rUvarint, kUvarint, rSpan, tSet] = true) : RdG P (F tRead) 1 fun s => (.tag (decStd.tags s).1, (decStd.tags s).2) := by
  have h := hasAll_mem h
  exact tRead_call L.mixed (L.tRead (h _ (by simp))) (L.rUvarint (h _ (by simp))) (L.kUvarint (h _ (by simp))) (L.rSpan (h _ (by simp))) (L.tSet (h _ (by simp)))
theorem len_std {x : Bool} (h : lenOk F has x f = true) : RdL P f (decStd.len x) := by
  unfold lenOk at h
  cases x with
  | true =>
    simp only [if_true, Bool.and_eq_true, beq_iff_eq] at h
    obtain ⟨rfl, h⟩ := h
    have h := hasAll_mem h
    exact (rCompactArrayLen_call L.mixed (L.rCompactArrayLen (h _ (by simp))) (L.rUvarint (h _ (by simp))) (L.kUvarint (h _ (by simp)))).l
  | false =>
    simp only [Bool.false_eq_true, if_false, Bool.and_eq_true, beq_iff_eq] at h
    obtain ⟨rfl, h⟩ := h
    have h := hasAll_mem h
    exact (rArrayLen_call L.mixed (L.rArrayLen (h _ (by simp))) (L.rInt32 (h _ (by simp))) (L.beUint32 (h _ (by simp)))).l
theorem sel_std {p : PK} {u x : Bool} (h : selOk F has p u x f = true) : RdG P f p.size (decStd.prim p x) := by
  have hm := L.mixed
  have spl : ∀ {c : Nat} {l : List Nat}, (f == F c && hasAll has (c :: l)) = true → f = F c ∧ ∀ y ∈ c :: l, has y = true := fun h => by
    simp only [Bool.and_eq_true, beq_iff_eq] at h
    exact ⟨h.1, hasAll_mem h.2⟩
  cases p with
  | bool => obtain ⟨rfl, q⟩ := spl h; exact (rBool_call hm (L.rBool (q _ (by simp)))).g (fun _ => rfl) fun _ => rfl
  | i8 => obtain ⟨rfl, q⟩ := spl h; exact (rInt8_call hm (L.rInt8 (q _ (by simp)))).g (fun _ => rfl) fun _ => rfl
  | i16 => obtain ⟨rfl, q⟩ := spl h; exact (rInt16_call hm (L.rInt16 (q _ (by simp))) (L.beUint16 (q _ (by simp)))).g (fun _ => rfl) fun _ => rfl
  | u16 => obtain ⟨rfl, q⟩ := spl h; exact (rUint16_call hm (L.rUint16 (q _ (by simp))) (L.beUint16 (q _ (by simp)))).g (fun _ => rfl) fun _ => rfl
  | i32 => obtain ⟨rfl, q⟩ := spl h; exact (rInt32_call hm (L.rInt32 (q _ (by simp))) (L.beUint32 (q _ (by simp)))).g (fun _ => rfl) fun _ => rfl
  | u32 => simp [selOk] at h
  | i64 => obtain ⟨rfl, q⟩ := spl h; exact (rInt64_call hm (L.rInt64 (q _ (by simp))) (L.rReadUint64 (q _ (by simp))) (L.beUint64 (q _ (by simp)))).g (fun _ => rfl) fun _ => rfl
  | uuid =>
    obtain ⟨rfl, q⟩ := spl h
    exact fun S w rb s hr hrb _ => (rUuid_call hm (L.rUuid (q _ (by simp))) (L.rSpan (q _ (by simp))) S w rb s hr hrb).mono fun e w' ⟨e1, e2, e3⟩ =>
      ⟨_, e1, ⟨by have := rdUuid_len s; simp [Value.cells, u8s, this, PK.size], .arr⟩, e2, e3⟩
  | str =>
    cases u with
    | true => cases x with
      | true => obtain ⟨rfl, q⟩ := spl h; exact (rUnsafeCompactString_call hm (L.rUnsafeCompactString (q _ (by simp))) (L.rUvarint (q _ (by simp))) (L.kUvarint (q _ (by simp))) (L.rSpan (q _ (by simp))) (L.kUnsafeString (q _ (by simp)))).g (fun _ => rfl) fun _ => rfl
      | false => obtain ⟨rfl, q⟩ := spl h; exact (rUnsafeString_call hm (L.rUnsafeString (q _ (by simp))) (L.rInt16 (q _ (by simp))) (L.beUint16 (q _ (by simp))) (L.rSpan (q _ (by simp))) (L.kUnsafeString (q _ (by simp)))).g (fun _ => rfl) fun _ => rfl
    | false => cases x with
      | true => obtain ⟨rfl, q⟩ := spl h; exact (rCompactString_call hm (L.rCompactString (q _ (by simp))) (L.rUvarint (q _ (by simp))) (L.kUvarint (q _ (by simp))) (L.rSpan (q _ (by simp)))).g (fun _ => rfl) fun _ => rfl
      | false => obtain ⟨rfl, q⟩ := spl h; exact (rString_call hm (L.rString (q _ (by simp))) (L.rInt16 (q _ (by simp))) (L.beUint16 (q _ (by simp))) (L.rSpan (q _ (by simp)))).g (fun _ => rfl) fun _ => rfl
  | nstr =>
    cases u with
    | true => cases x with
      | true => obtain ⟨rfl, q⟩ := spl h; exact nstr_rd fun S w rb s hr hrb => rUnsafeCompactNullableString_call hm (L.rUnsafeCompactNullableString (q _ (by simp))) (L.rUvarint (q _ (by simp))) (L.kUvarint (q _ (by simp))) (L.rSpan (q _ (by simp))) (L.kUnsafeString (q _ (by simp))) hr hrb
      | false => obtain ⟨rfl, q⟩ := spl h; exact nstr_rd fun S w rb s hr hrb => rUnsafeNullableString_call hm (L.rUnsafeNullableString (q _ (by simp))) (L.rInt16 (q _ (by simp))) (L.beUint16 (q _ (by simp))) (L.rSpan (q _ (by simp))) (L.kUnsafeString (q _ (by simp))) hr hrb
    | false => cases x with
      | true => obtain ⟨rfl, q⟩ := spl h; exact nstr_rd fun S w rb s hr hrb => rCompactNullableString_call hm (L.rCompactNullableString (q _ (by simp))) (L.rUvarint (q _ (by simp))) (L.kUvarint (q _ (by simp))) (L.rSpan (q _ (by simp))) hr hrb
      | false => obtain ⟨rfl, q⟩ := spl h; exact nstr_rd fun S w rb s hr hrb => rNullableString_call hm (L.rNullableString (q _ (by simp))) (L.rInt16 (q _ (by simp))) (L.beUint16 (q _ (by simp))) (L.rSpan (q _ (by simp))) hr hrb
  | byt =>
    cases x with
    | true => obtain ⟨rfl, q⟩ := spl h; exact byt_rd fun S w rb s hr hrb hS => rCompactBytes_call hm (L.rCompactBytes (q _ (by simp))) (L.rUvarint (q _ (by simp))) (L.kUvarint (q _ (by simp))) (L.rSpan (q _ (by simp))) hr hrb hS
    | false => obtain ⟨rfl, q⟩ := spl h; exact byt_rd fun S w rb s hr hrb hS => rBytes_call hm (L.rBytes (q _ (by simp))) (L.rInt32 (q _ (by simp))) (L.beUint32 (q _ (by simp))) (L.rSpan (q _ (by simp))) hr hrb hS
  | nbyt =>
    cases x with
    | true => obtain ⟨rfl, q⟩ := spl h; exact byt_rd fun S w rb s hr hrb _ => rCompactNullableBytes_call hm (L.rCompactNullableBytes (q _ (by simp))) (L.rUvarint (q _ (by simp))) (L.kUvarint (q _ (by simp))) (L.rSpan (q _ (by simp))) hr hrb
    | false => obtain ⟨rfl, q⟩ := spl h; exact byt_rd fun S w rb s hr hrb _ => rNullableBytes_call hm (L.rNullableBytes (q _ (by simp))) (L.rInt32 (q _ (by simp))) (L.beUint32 (q _ (by simp))) (L.rSpan (q _ (by simp))) hr hrb
end
end Go.Msk

namespace Go.Msk
open Go.RowKit
set_option maxRecDepth 100000
def Sc.okB (F : Nat → Nat) (has : Nat → Bool) (u x : Bool) : Sc → Bool
  | .nil => true
  | .prm _ _ r p d rest => selOk F has p u x (r.sel u x) && decide (p.size = d.size) && rest.okB F has u x
  | .enm _ _ r p d rest => selOk F has p u x (r.sel u x) && decide (p.size = d.size) && rest.okB F has u x
  | .lsp _ len bytes d _ r p rest => lenOk F has x (len.sel u x) && decide (bytes.b ≤ 32768) && selOk F has p u x (r.sel u x) && decide (p.size = d.size) && rest.okB F has u x
  | .lss _ len bytes z _ body rest => lenOk F has x (len.sel u x) && decide (bytes.b ≤ 32768) && decide (z.length = body.size) && body.okB F has u x && rest.okB F has u x
  | .sub _ _ body rest => body.okB F has u x && rest.okB F has u x
  | .tags f => !x || (f == F tRead && hasAll has [tRead, rUvarint, kUvarint, rSpan, tSet])
  | .uid _ f rest => selOk F has .uuid u x f && rest.okB F has u x
  | .vst _ _ r1 r2 rest => selOk F has .str u x (r1.sel u x) && selOk F has .nstr u x (r2.sel u x) && rest.okB F has u x
def Sc.dfs : Sc → List (FuncId × List Value × List Value)
  | .nil => []
  | .prm _ _ _ _ _ rest => rest.dfs
  | .enm _ _ _ _ _ rest => rest.dfs
  | .lsp _ _ _ _ _ _ _ rest => rest.dfs
  | .lss _ _ _ z dfl body rest => (dfl, z, body.dcs.flatten) :: (body.dfs ++ rest.dfs)
  | .sub _ dfl body rest => (dfl, body.dcs.flatten, body.dcs.flatten) :: (body.dfs ++ rest.dfs)
  | .tags _ => []
  | .uid _ _ rest => rest.dfs
  | .vst _ _ _ _ rest => rest.dfs
def DfsOk (P : Program) : List (FuncId × List Value × List Value) → Prop
  | [] => True
  | p :: l => DfC P p.1 p.2.1 p.2.2 ∧ DfsOk P l
theorem DfsOk.append {P : Program} {l l' : List (FuncId × List Value × List Value)} (h : DfsOk P (l ++ l')) : DfsOk P l ∧ DfsOk P l' := by
  induction l with
  | nil => exact ⟨trivial, h⟩
  | cons p l ih => exact ⟨⟨h.1, (ih h.2).1⟩, (ih h.2).2⟩
theorem Sc.ok_of {P : Program} {F : Nat → Nat} {has : Nat → Bool} (L : Lib P F has) {u x : Bool} : ∀ sc : Sc, sc.okB F has u x = true → DfsOk P sc.dfs → sc.Ok P decStd u x := by
  intro sc
  induction sc with
  | nil => intro _ _; trivial
  | prm vc i r p d rest ih =>
    intro h hd
    simp only [Sc.okB, Bool.and_eq_true, decide_eq_true_eq] at h
    exact ⟨sel_std L h.1.1, h.1.2, ih h.2 hd⟩
  | enm vc i r p d rest ih =>
    intro h hd
    simp only [Sc.okB, Bool.and_eq_true, decide_eq_true_eq] at h
    exact ⟨sel_std L h.1.1, h.1.2, ih h.2 hd⟩
  | lsp vc len b d i r p rest ih =>
    intro h hd
    simp only [Sc.okB, Bool.and_eq_true, decide_eq_true_eq] at h
    exact ⟨len_std L h.1.1.1.1, h.1.1.1.2, sel_std L h.1.1.2, h.1.2, ih h.2 hd⟩
  | lss vc len b z dfl body rest ihb ih =>
    intro h hd
    simp only [Sc.okB, Bool.and_eq_true, decide_eq_true_eq] at h
    obtain ⟨k1, k2⟩ := DfsOk.append hd.2
    exact ⟨len_std L h.1.1.1.1, h.1.1.1.2, h.1.1.2, hd.1, ihb h.1.2 k1, ih h.2 k2⟩
  | sub vc dfl body rest ihb ih =>
    intro h hd
    simp only [Sc.okB, Bool.and_eq_true] at h
    obtain ⟨k1, k2⟩ := DfsOk.append hd.2
    exact ⟨hd.1, ihb h.1 k1, ih h.2 k2⟩
  | vst vc V r1 r2 rest ih =>
    intro h hd
    simp only [Sc.okB, Bool.and_eq_true] at h
    exact ⟨sel_std L h.1.1, sel_std L h.1.2, fun s => by cases x <;> exact ⟨_, rfl⟩, ih h.2 hd⟩
  | uid vc f rest ih =>
    intro h hd
    simp only [Sc.okB, Bool.and_eq_true] at h
    exact ⟨sel_std L h.1, ih h.2 hd⟩
  | tags f =>
    intro h _ hx
    simp only [Sc.okB, hx, Bool.not_true, Bool.false_or, Bool.and_eq_true, beq_iff_eq] at h
    obtain ⟨rfl, h⟩ := h
    exact tags_std L h
def Top.okB (F : Nat → Nat) (has : Nat → Bool) (T : Top) : Bool :=
  (match T.rv with | none => true | some f => f == F rInt16 && hasAll has [rInt16, beUint16]) && (!T.sc.lists || (T.ok == F rOk && has rOk)) && (T.cpl == F rComplete && has rComplete) &&
  T.sc.okB F has true false && T.sc.okB F has false false && (T.flex.isNone || (T.sc.okB F has true true && T.sc.okB F has false true))
theorem Top.ok_of {P : Program} {F : Nat → Nat} {has : Nat → Bool} (L : Lib P F has) {T : Top} (h : T.okB F has = true) (hd : DfsOk P T.sc.dfs) {l : List (Nat × Value)} (hf : liftF P T.dfl = some (dfGen l)) (hl : dfOk l (T.sc.dcs.flatten.length + 1))
    (hr : ∀ ver, dfRes l (.int .i16 ver :: T.sc.dcs.flatten) = .int .i16 ver :: T.sc.dcs.flatten) (u : Bool) : T.Ok P decStd (F gErr) u := by
  unfold Top.okB at h
  simp only [Bool.and_eq_true, beq_iff_eq, Bool.or_eq_true] at h
  obtain ⟨⟨⟨⟨⟨h1, h2⟩, h3⟩, h4⟩, h5⟩, h6⟩ := h
  refine ⟨fun f hf => ?_, ?_, ?_, decStd_short, fun ver => df_call L.mixed hf (by simpa using hl) (hr ver), fun x hx => ?_⟩
  · rw [hf] at h1
    simp only [Bool.and_eq_true, beq_iff_eq] at h1
    obtain ⟨rfl, h1⟩ := h1
    have h1 := hasAll_mem h1
    exact rInt16_call L.mixed (L.rInt16 (h1 _ (by simp))) (L.beUint16 (h1 _ (by simp)))
  · intro hl2
    have h2 := h2.resolve_left (by simp [hl2])
    rw [h2.1]; exact ok_std L h2.2
  · rw [h3.1]; exact cpl_std L h3.2
  · refine Sc.ok_of L _ ?_ hd
    cases x with
    | false => cases u <;> assumption
    | true =>
      have : T.flex.isNone = false := by
        cases hfl : T.flex with
        | none => exact absurd (hx hfl) (by simp)
        | some n => rfl
      rw [this] at h6
      have h6 := h6.resolve_left (by simp)
      cases u
      · exact h6.2
      · exact h6.1
end Go.Msk

namespace Go.Msk
open Go.RowKit Go.ChangeShapes Go.WideShapes Go.ChangeAt
set_option maxRecDepth 100000
theorem Mod.keptBut {W W' : World} (h : Mod [] W W') (may : MemPlace → Prop) : W.keptBut W' may := by
  refine ⟨h.os, h.output, fun i hi => ?_⟩
  rw [h.block i hi (by simp)]
  cases W.heap[i]? with
  | none => rfl
  | some o => cases o <;> simp
theorem post_of_mod {H : Type} {enc : TypeId × Value → H} {P : Program} {f : Func} {s : ChangeSpec} {apart fresh handsOn : Bool} {W W' : World} {args : Array Value} {v : Value} {ds gs : List (DataW H)} {before pa pv : List MemPlace}
    (hW : DataW.Whole enc P f.params.toList s.vars apart W args.toList ds gs before)
    (hres : ∀ b : Nat, DataW.TrodAll enc P W' b (fun _ => false) handsOn f.resultTypes.toList (v.resultList f.resultTypes.size) (s.fn H (ds ++ gs)).results [])
    (hargs : DataW.TrodAll enc P W' 0 (fun b => decide (b < W.heap.size)) true f.params.toList args.toList (s.fn H (ds ++ gs)).args pa)
    (hvars : DataW.TrodVars enc P W' (fun b => decide (b < W.heap.size)) s.vars (s.fn H (ds ++ gs)).vars pv) (hm : Mod [] W W') : s.post enc P f apart fresh handsOn false W args v W' :=
  ⟨ds, gs, before, [], pa, pv, hW, hres _, hargs, hvars, hm.keptBut _, fun h => by simp at h⟩
theorem u8_of {n : Int} (h : (Lit.int .u8 n).wf = true) : 0 ≤ n ∧ n < 256 := by
  simp only [Lit.wf, Bool.and_eq_true, decide_eq_true_eq] at h
  have h1 : IntKind.u8.min = 0 := by rfl
  have h2 : IntKind.u8.max = 255 := by rfl
  omega
section
variable {H : Type} {enc : TypeId × Value → H} {P : Program} {W : World}
theorem gerr_of_laid {n : String} {g : Nat} {t : TypeId} {ms : Array (String × TypeId)} {tn : String} {d : DataW Unit} (hg : P.globalNamed n = some g) (ht : (P.globals[g]?).map (·.type) = some t) (hi : P.underlying t = some (.interface ms))
    (hl : laidMetH P [(n, .iface tn d)] W) (hh : ([(n, DataW.iface (H := Unit) tn d)].all fun x => x.2.handleName?.isNone) = true) : ∃ T v, GErr g W T v := by
  rw [MakeChecks.laidMetH_plain _ _ _ hh] at hl
  obtain ⟨ps, ⟨g0, t0, cs0, f0, p0, q0, hg0, ht0, hv0, hd0, -⟩, -, -⟩ := hl
  obtain rfl := Option.some.inj (hg.symm.trans hg0)
  obtain rfl := Option.some.inj (ht.symm.trans ht0)
  obtain ⟨_, u, v, hcs, -, -⟩ := iface_of_trod hi hd0
  refine ⟨u, v, ?_⟩
  have := World.var?_cell hg hv0 0
  rw [Array.eq_one_of_toList hcs] at this
  simpa [GErr] using this
end
end Go.Msk
