/- A small language of resolved operations, and what the generic and the generated functions do in it (part 7). -/
import Derived.Test.YtkgihecaappglaaGreatDoorFf

namespace Go.Msk
open Go.RowKit
set_option maxRecDepth 100000
inductive PK where
  | bool | i8 | i16 | u16 | i32 | i64 | u32 | uuid | str | nstr | byt | nbyt
  deriving Inhabited, DecidableEq, Repr
inductive Df where
  | int (k : IntKind) (n : Int)
  | bool (b : Bool)
  | str (l : List UInt8)
  | nstr
  | byt
  | uuid
  deriving Inhabited
def Df.gv : Df → GV
  | .int k n => .num (.int k n)
  | .bool b => .num (.bool b)
  | .str l => .num (Msk.str l)
  | .nstr => .nstr none
  | .byt => .byt none
  | .uuid => .arr (List.replicate 16 0)
def Df.cells : Df → List Value
  | .int k n => [.int k n]
  | .bool b => [.bool b]
  | .str l => [Msk.str l]
  | .nstr => [.pointer none]
  | .byt => [.slice none 0 0]
  | .uuid => u8s (List.replicate 16 0)
def Df.zero : Df → List Value
  | .int k _ => [.int k 0]
  | .bool _ => [.bool false]
  | .str _ => [.string .empty]
  | .nstr => [.pointer none]
  | .byt => [.slice none 0 0]
  | .uuid => u8s (List.replicate 16 0)
def Df.size : Df → Nat
  | .uuid => 16
  | _ => 1
theorem Df.cells_length (d : Df) : d.cells.length = d.size := by cases d <;> simp [Df.cells, Df.size, u8s]
theorem Df.rep (d : Df) (O : List Nat) (w : World) : Rep O w d.gv d.cells := by
  cases d with
  | int k n => exact .num rfl
  | bool b => exact .num rfl
  | str l => exact .num rfl
  | nstr => exact .nstr0
  | byt => exact .byt ⟨rfl, fun a n c h => by cases h⟩
  | uuid => exact .arr
structure LB where
  b : Nat
  nul : Option Int := none
  deriving Inhabited
def LB.nt (l : LB) : Nat := match l.nul with
  | none => 0
  | some _ => 7
def LB.sets (l : LB) (ver n : Int) : Bool := match l.nul with
  | none => false
  | some V => decide (ver < V) || decide (n = 0)
def LB.nil (l : LB) (ver n : Int) : Bool := decide (n ≤ 0) && !l.sets ver n
def VC.nt : VC → Nat
  | .all => 0
  | .ge _ => 2
  | .rng _ _ => 6
structure KF where
  init : Option Value
  r : VR
  p : PK
  d : Df
  deriving Inhabited
structure KCase where
  tag : Nat
  lst : Option (VR × Nat × List Value)
  dfl : FuncId
  fs : List KF
  rt : FuncId
  deriving Inhabited
def flDgv : List KF → List GV
  | [] => [.tag []]
  | f :: fs => f.d.gv :: flDgv fs
def flDcs : List KF → List (List Value)
  | [] => [[.map none]]
  | f :: fs => f.d.cells :: flDcs fs
def flNt (h : Bool) : List KF → Nat
  | [] => if h then 5 else 0
  | f :: fs => VC.nt .all + f.r.nt h + 4 + flNt h fs
def KCase.size (c : KCase) : Nat := (flDcs c.fs).flatten.length
def KCase.gv0 (c : KCase) : GV := if c.lst.isNone then .rcd (flDgv c.fs) else .lst true 0 []
def KCase.cs0 (c : KCase) : List Value := if c.lst.isNone then (flDcs c.fs).flatten else [.slice none 0 0]
def kSize (cs : List KCase) : Nat := (cs.map KCase.cs0).flatten.length
def KCase.nv (c : KCase) : Nat := (if c.lst.isNone then 4 else 8) + c.fs.length
def KCase.nb (c : KCase) : Nat := if c.lst.isNone then 0 else 2
def KCase.nt (h : Bool) (c : KCase) : Nat := match c.lst with
  | none => 14 + flNt h c.fs
  | some l => 8 + (l.1.nt h + flNt h c.fs + 31)
inductive Sc where
  | nil
  | prm (vc : VC) (init : Option Value) (r : VR) (p : PK) (d : Df) (rest : Sc)
  | enm (vc : VC) (init : Value) (r : VR) (p : PK) (d : Df) (rest : Sc)
  | lsp (vc : VC) (len : VR) (bytes : LB) (d : Df) (init : Option Value) (r : VR) (p : PK) (rest : Sc)
  | lss (vc : VC) (len : VR) (bytes : LB) (z : List Value) (dfl : FuncId) (body : Sc) (rest : Sc)
  | sub (vc : VC) (dfl : FuncId) (body : Sc) (rest : Sc)
  | tags (f : FuncId)
  | uid (vc : VC) (f : FuncId) (rest : Sc)
  | vst (vc : VC) (V : Int) (r1 r2 : VR) (rest : Sc)
  | ktg (cs : List KCase) (mid : Sc) (uvr span set : FuncId)
  deriving Inhabited
def Sc.dgv : Sc → List GV
  | .nil => []
  | .prm _ _ _ _ d rest => d.gv :: rest.dgv
  | .enm _ _ _ _ d rest => d.gv :: rest.dgv
  | .lsp _ _ _ _ _ _ _ rest => .lst true 0 [] :: rest.dgv
  | .lss _ _ _ _ _ _ rest => .lst true 0 [] :: rest.dgv
  | .sub _ _ body rest => .rcd body.dgv :: rest.dgv
  | .tags _ => [.tag []]
  | .uid _ _ rest => .arr (List.replicate 16 0) :: rest.dgv
  | .vst _ _ _ _ rest => .nstr none :: rest.dgv
  | .ktg cs mid _ _ _ => cs.map KCase.gv0 ++ (mid.dgv ++ [.tag []])
def Sc.dcs : Sc → List (List Value)
  | .nil => []
  | .prm _ _ _ _ d rest => d.cells :: rest.dcs
  | .enm _ _ _ _ d rest => d.cells :: rest.dcs
  | .lsp _ _ _ _ _ _ _ rest => [.slice none 0 0] :: rest.dcs
  | .lss _ _ _ _ _ _ rest => [.slice none 0 0] :: rest.dcs
  | .sub _ _ body rest => body.dcs.flatten :: rest.dcs
  | .tags _ => [[.map none]]
  | .uid _ _ rest => u8s (List.replicate 16 0) :: rest.dcs
  | .vst _ _ _ _ rest => [.pointer none] :: rest.dcs
  | .ktg cs mid _ _ _ => cs.map KCase.cs0 ++ (mid.dcs ++ [[.map none]])
theorem flDrep (O : List Nat) (w : World) : ∀ fs : List KF, RepL O w (flDgv fs) (flDcs fs)
  | [] => .cons .tag0 .nil
  | f :: fs => .cons (f.d.rep O w) (flDrep O w fs)
theorem KCase.drep (O : List Nat) (w : World) (c : KCase) : Rep O w c.gv0 c.cs0 := by
  unfold KCase.gv0 KCase.cs0
  split
  · exact .rcd (flDrep O w _)
  · exact .lst0
theorem kDrep (O : List Nat) (w : World) : ∀ cs : List KCase, RepL O w (cs.map KCase.gv0) (cs.map KCase.cs0)
  | [] => .nil
  | c :: cs => .cons (c.drep O w) (kDrep O w cs)
theorem RepL.app {O : List Nat} {w : World} : ∀ {g1 g2 : List GV} {c1 c2 : List (List Value)}, RepL O w g1 c1 → RepL O w g2 c2 → RepL O w (g1 ++ g2) (c1 ++ c2)
  | [], _, _, _, h1, h2 => by cases h1; exact h2
  | _ :: _, _, _, _, h1, h2 => by cases h1 with | cons a b => exact .cons a (b.app h2)
theorem Sc.drep (O : List Nat) (w : World) : ∀ sc : Sc, RepL O w sc.dgv sc.dcs := by
  intro sc
  induction sc with
  | nil => exact .nil
  | prm vc i r p d rest ih => exact .cons (d.rep O w) ih
  | enm vc i r p d rest ih => exact .cons (d.rep O w) ih
  | lsp _ _ _ _ _ _ _ rest ih => exact .cons .lst0 ih
  | lss _ _ _ _ _ _ rest _ ih => exact .cons .lst0 ih
  | sub _ _ body rest ihb ih => exact .cons (.rcd ihb) ih
  | tags f => exact .cons .tag0 .nil
  | uid vc f rest ih => exact .cons .arr ih
  | vst _ _ _ _ rest ih => exact .cons .nstr0 ih
  | ktg cs mid _ _ _ ih => exact (kDrep O w cs).app (ih.app (.cons .tag0 .nil))
def Sc.size (sc : Sc) : Nat := sc.dcs.flatten.length
def VC.wrap (E : RE) (t : Nat) (f : Nat → IC) : VC → IC
  | .all => f t
  | .ge n => .seq (.blk [⟨some t, .mv (.tmp E.vs), none⟩, ⟨some (t + 1), .bin .geq (.tmp t) (.const (.int .i16 n)), none⟩]) (.cond (.tmp (t + 1)) (f (t + 2)) .skip)
  | .rng a b => .seq (.blk [⟨some t, .mv (.tmp E.vs), none⟩, ⟨some (t + 1), .bin .geq (.tmp t) (.const (.int .i16 a)), none⟩, ⟨some (t + 2), .mv (.tmp (t + 1)), none⟩,
      ⟨some (t + 3), .mv (.tmp E.vs), some (t + 2, true)⟩, ⟨some (t + 4), .bin .leq (.tmp (t + 3)) (.const (.int .i16 b)), some (t + 2, true)⟩,
      ⟨some (t + 5), .pick (.tmp (t + 2)) (.tmp (t + 4)) (.const (.bool false)), none⟩]) (.cond (.tmp (t + 5)) (f (t + 6)) .skip)
structure Dec where
  len : Bool → RS → Int × RS
  prim : PK → Bool → RS → GV × RS
  tags : RS → List (Nat × List UInt8) × RS
def decLst (D : Dec) (x : Bool) (lb : LB) (ver : Int) (sz : Nat) (el : RS → Option (GV × RS)) (s : RS) : Option (GV × RS) :=
  if (D.len x s).2.bad then none else
    match decList el (D.len x s).1.toNat (D.len x s).2 with
    | none => none
    | some (l, s2) => some (GV.lst (lb.nil ver (D.len x s).1) (if lb.nil ver (D.len x s).1 = true then 0 else sz) l, s2)
def consD (f : Option (GV × RS)) (rest : RS → Option (List GV × RS)) : Option (List GV × RS) :=
  match f with
  | none => none
  | some (g, s1) => match rest s1 with
    | none => none
    | some (l, s2) => some (g :: l, s2)
def rcdD (r : Option (List GV × RS)) : Option (GV × RS) :=
  match r with
  | none => none
  | some (l, s1) => some (.rcd l, s1)
def GV.toN : GV → GV
  | .num (.string b) => .nstr (some b.data.toList)
  | g => g
def decV (D : Dec) (x : Bool) (V ver : Int) (s : RS) : GV × RS := if ver < V then ((D.prim .str x s).1.toN, (D.prim .str x s).2) else D.prim .nstr x s
def flDec (D : Dec) (x : Bool) : List KF → RS → List GV × RS
  | [], s => if x then ([.tag (D.tags s).1], (D.tags s).2) else ([.tag []], s)
  | f :: fs, s => ((D.prim f.p x s).1 :: (flDec D x fs (D.prim f.p x s).2).1, (flDec D x fs (D.prim f.p x s).2).2)
def flRcd (D : Dec) (x : Bool) (fs : List KF) (s : RS) : Option (GV × RS) := some (.rcd (flDec D x fs s).1, (flDec D x fs s).2)
def GV.isnil : GV → Bool
  | .lst n _ _ => n
  | _ => false
def KCase.dec (D : Dec) (x : Bool) (c : KCase) (old : GV) (s : RS) : Option (GV × RS) :=
  if c.lst.isNone then flRcd D x c.fs s
  else if (D.len x s).2.bad then none else
    match decList (flRcd D x c.fs) (D.len x s).1.toNat (D.len x s).2 with
    | none => none
    | some (l, s2) => some (.lst (decide ((D.len x s).1 ≤ 0) && old.isnil) (if (decide ((D.len x s).1 ≤ 0) && old.isnil) = true then 0 else c.size) l, s2)
def ktgDec (D : Dec) (x : Bool) (cs : List KCase) : Nat → List GV → List (Nat × List UInt8) → RS → Option (List GV × List (Nat × List UInt8) × RS)
  | 0, gs, m, s => some (gs, m, s)
  | n + 1, gs, m, s =>
    match cs.findIdx? (fun c => c.tag == (rdUv s).1) with
    | none => ktgDec D x cs n gs (putTag m (rdUv s).1 ((rdSpan (rdUv (rdUv s).2).1 (rdUv (rdUv s).2).2).1.getD [])) (rdSpan (rdUv (rdUv s).2).1 (rdUv (rdUv s).2).2).2
    | some j =>
      match (cs.getD j default).dec D x (gs.getD j (.rcd [])) ⟨(rdSpan (rdUv (rdUv s).2).1 (rdUv (rdUv s).2).2).1.getD [], false, (rdSpan (rdUv (rdUv s).2).1 (rdUv (rdUv s).2).2).1.isNone⟩ with
      | none => none
      | some (g, s4) => if s4.bad then none else ktgDec D x cs n (gs.set j g) m (rdSpan (rdUv (rdUv s).2).1 (rdUv (rdUv s).2).2).2
def ktgJ (D : Dec) (x : Bool) (cs : List KCase) : Option (List GV × RS) → Option (List GV × RS)
  | none => none
  | some (gm, s1) =>
    if x then match ktgDec D x cs (rdUv s1).1 (cs.map KCase.gv0) [] (rdUv s1).2 with
      | none => none
      | some (gk, m, s2) => some (gk ++ (gm ++ [.tag m]), s2)
    else some (cs.map KCase.gv0 ++ (gm ++ [.tag []]), s1)
def Sc.dec (D : Dec) (ver : Int) (x : Bool) : Sc → RS → Option (List GV × RS)
  | .nil, s => some ([], s)
  | .prm vc _ _ p d rest, s => consD (if vc.holds ver then some (D.prim p x s) else some (d.gv, s)) (rest.dec D ver x)
  | .enm vc _ _ p d rest, s => consD (if vc.holds ver then some (D.prim p x s) else some (d.gv, s)) (rest.dec D ver x)
  | .lsp vc _ lb d _ _ p rest, s => consD (if vc.holds ver then decLst D x lb ver d.size (fun s => some (D.prim p x s)) s else some (GV.lst true 0 [], s)) (rest.dec D ver x)
  | .lss vc _ lb _ _ body rest, s => consD (if vc.holds ver then decLst D x lb ver body.size (fun s => rcdD (body.dec D ver x s)) s else some (GV.lst true 0 [], s)) (rest.dec D ver x)
  | .sub vc _ body rest, s => consD (if vc.holds ver then rcdD (body.dec D ver x s) else some (GV.rcd body.dgv, s)) (rest.dec D ver x)
  | .tags _, s => if x then some ([.tag (D.tags s).1], (D.tags s).2) else some ([.tag []], s)
  | .uid vc _ rest, s => consD (if vc.holds ver then some (D.prim .uuid x s) else some (.arr (List.replicate 16 0), s)) (rest.dec D ver x)
  | .vst vc V _ _ rest, s => consD (if vc.holds ver then some (decV D x V ver s) else some (.nstr none, s)) (rest.dec D ver x)
  | .ktg cs mid _ _ _, s => ktgJ D x cs (mid.dec D ver x s)
def Sc.nv : Sc → Nat
  | .nil => 0
  | .prm _ _ _ _ _ rest => 1 + rest.nv
  | .enm _ _ _ _ _ rest => 3 + rest.nv
  | .lsp _ _ _ _ _ _ _ rest => 5 + rest.nv
  | .lss _ _ _ _ _ body rest => 6 + body.nv + rest.nv
  | .sub _ _ body rest => 2 + body.nv + rest.nv
  | .tags _ => 0
  | .uid _ _ rest => 1 + rest.nv
  | .vst _ _ _ _ rest => 2 + rest.nv
  | .ktg cs mid _ _ _ => mid.nv + (2 + (cs.map KCase.nv).sum)
def Sc.nb : Sc → Nat
  | .nil => 0
  | .prm _ _ _ _ _ rest => rest.nb
  | .enm _ _ _ _ _ rest => rest.nb
  | .lsp _ _ _ _ _ _ _ rest => 2 + rest.nb
  | .lss _ _ _ _ _ body rest => 2 + body.nb + rest.nb
  | .sub _ _ body rest => body.nb + rest.nb
  | .tags _ => 0
  | .uid _ _ rest => rest.nb
  | .vst _ _ _ _ rest => rest.nb
  | .ktg cs mid _ _ _ => mid.nb + (3 + (cs.map KCase.nb).sum)
def Sc.nt (h : Bool) : Sc → Nat
  | .nil => 0
  | .prm vc _ r _ _ rest => vc.nt + r.nt h + 4 + rest.nt h
  | .enm vc _ r _ _ rest => vc.nt + r.nt h + 6 + rest.nt h
  | .lsp vc len bytes _ _ r _ rest => vc.nt + len.nt h + r.nt h + 29 + bytes.nt + rest.nt h
  | .lss vc len bytes _ _ body rest => vc.nt + len.nt h + body.nt h + 31 + bytes.nt + rest.nt h
  | .sub vc _ body rest => vc.nt + 6 + body.nt h + rest.nt h
  | .tags _ => if h then 5 else 0
  | .uid vc _ rest => vc.nt + 5 + rest.nt h
  | .vst vc _ r1 r2 rest => vc.nt + (2 + r1.nt h + r2.nt h + 4) + rest.nt h
  | .ktg cs mid _ _ _ => mid.nt h + if h then 16 + (cs.map fun c => 2 + c.nt h).sum else 0
def initF (init : Option Value) (x : Nat) : List IC :=
  match init with
  | some v => [cF x v]
  | none => []
def stE (nv t n : Nat) : IC :=
  .blk [⟨some t, .mv (.tmp (nv + 1)), none⟩, ⟨some (t + 1), .mv (.tmp (nv + 3)), none⟩, ⟨some (t + 2), .mv (.tmp (nv + 4)), none⟩, ⟨some (t + 3), .iad (.tmp t) (.tmp (t + 1)) n, none⟩, ⟨none, .st (.tmp (t + 3)) n (.tmp (t + 2)), none⟩]
def roomF (nv t bytes : Nat) (z : List Value) : List IC :=
  [.blk [⟨some t, .mv (.tmp (nv + 1)), none⟩, ⟨some (t + 1), .slice (.tmp t) none (some (.const (.int .i64 0))) none z.length, none⟩, ⟨some (nv + 1), .mv (.tmp (t + 1)), none⟩],
   .seq (.blk [⟨some (t + 2), .mv (.tmp (nv + 2)), none⟩, ⟨some (t + 3), .bin .gtr (.tmp (t + 2)) (.const (.int .i32 0)), none⟩])
     (.cond (.tmp (t + 3)) (.blk [⟨some (t + 4), .mv (.tmp (nv + 1)), none⟩, ⟨some (t + 5), .mv (.tmp (nv + 2)), none⟩, ⟨some (t + 6), .appendz (.tmp (t + 4)) (.tmp (t + 5)) bytes z, none⟩, ⟨some (nv + 1), .mv (.tmp (t + 6)), none⟩]) .skip)]
def setF (E : RE) (V : Int) (nv t : Nat) (z : List Value) : IC :=
  .seq (.blk [⟨some t, .mv (.tmp E.vs), none⟩, ⟨some (t + 1), .bin .lss (.tmp t) (.const (.int .i16 V)), none⟩, ⟨some (t + 2), .mv (.tmp (t + 1)), none⟩,
      ⟨some (t + 3), .mv (.tmp (nv + 2)), some (t + 2, false)⟩, ⟨some (t + 4), .bin .eql (.tmp (t + 3)) (.const (.int .i32 0)), some (t + 2, false)⟩,
      ⟨some (t + 5), .pick (.tmp (t + 2)) (.const (.bool true)) (.tmp (t + 4)), none⟩])
    (.cond (.tmp (t + 5)) (.blk [⟨some (t + 6), .bslice 0 z [], none⟩, ⟨some (nv + 1), .mv (.tmp (t + 6)), none⟩]) .skip)
def LB.setL (l : LB) (E : RE) (nv t : Nat) (z : List Value) : List IC := match l.nul with
  | none => []
  | some V => [setF E V nv t z]
def lstR (E : RE) (sp off nv nb : Nat) (bytes : Nat) (z : List Value) (ne : Nat) (elem : Nat → List IC) (t : Nat) : List IC :=
  okF E t ::
    (roomF nv (t + 3) bytes z ++
     [loopF nv nb (t + 10) (elem (t + 15)),
      cpF (nv + 1) nv (t + 15 + ne), stF sp nv (t + 16 + ne) off 1])
def lstL (E : RE) (sp off nv nb : Nat) (len : VR) (bytes : LB) (z : List Value) (ne : Nat) (elem : Nat → List IC) (t : Nat) : List IC :=
  [ldF sp nv t off, cpF nv (nv + 1) (t + 4), cF (nv + 2) (.int .i32 0), len.gen E (nv + 2) (t + 5)] ++ (bytes.setL E nv (t + 5 + len.nt E.hasFx) z ++ lstR E sp off nv nb bytes.b z ne elem (t + 5 + len.nt E.hasFx + bytes.nt))
def lstF (E : RE) (sp off nv nb : Nat) (len : VR) (bytes : LB) (z : List Value) (ne : Nat) (elem : Nat → List IC) (t : Nat) : IC :=
  seqs ([ldF sp nv t off, cpF nv (nv + 1) (t + 4), cF (nv + 2) (.int .i32 0), len.gen E (nv + 2) (t + 5)] ++ (bytes.setL E nv (t + 5 + len.nt E.hasFx) z ++ lstR E sp off nv nb bytes.b z ne elem (t + 5 + len.nt E.hasFx + bytes.nt)))
def elF (nv t n : Nat) (dfl : FuncId) : List IC :=
  [.blk [⟨some t, .mv (.tmp (nv + 1)), none⟩, ⟨some (t + 1), .mv (.tmp (nv + 3)), none⟩, ⟨some (t + 2), .iad (.tmp t) (.tmp (t + 1)) n, none⟩, ⟨some (nv + 4), .mv (.tmp (t + 2)), none⟩],
   .blk [⟨some (t + 3), .mv (.tmp (nv + 4)), none⟩, ⟨some (t + 4), .call dfl [.tmp (t + 3)], none⟩], cpF (nv + 4) (nv + 5) (t + 5)]
def rdF (sp rb t off : Nat) (f : FuncId) : IC :=
  .blk [⟨some t, .mv (.tmp sp), none⟩, ⟨some (t + 1), .call f [.tmp rb], none⟩, ⟨some (t + 2), .nilc (.tmp t), none⟩, ⟨some (t + 3), .fad (.tmp (t + 2)) off, none⟩, ⟨none, .st (.tmp (t + 3)) 1 (.tmp (t + 1)), none⟩]
def uidR (sp rb nv t off : Nat) (f : FuncId) : IC :=
  .seq (.blk [⟨some t, .call f [.tmp rb], none⟩, ⟨some nv, .alloc (u8s (List.replicate 16 0)), none⟩, ⟨none, .st (.tmp nv) 16 (.tmp t), none⟩])
    (.blk [⟨some (t + 1), .mv (.tmp sp), none⟩, ⟨some (t + 2), .ldn (.tmp nv) 16, none⟩, ⟨some (t + 3), .nilc (.tmp (t + 1)), none⟩, ⟨some (t + 4), .fad (.tmp (t + 3)) off, none⟩, ⟨none, .st (.tmp (t + 4)) 16 (.tmp (t + 2)), none⟩])
def vstF (E : RE) (sp off nv : Nat) (V : Int) (r1 r2 : VR) (t : Nat) : IC :=
  seqs [cF nv (.pointer none), .seq (.blk [⟨some t, .mv (.tmp E.vs), none⟩, ⟨some (t + 1), .bin .lss (.tmp t) (.const (.int .i16 V)), none⟩])
    (.cond (.tmp (t + 1)) (seqs [.blk [⟨some (nv + 1), .alloc [.string .empty], none⟩], r1.genS E (nv + 1) (t + 2), .blk [⟨some nv, .mv (.tmp (nv + 1)), none⟩]]) (r2.gen E nv (t + 2 + r1.nt E.hasFx))),
    stF sp nv (t + 2 + r1.nt E.hasFx + r2.nt E.hasFx) off 1]
def flGen (E : RE) (rt : FuncId) : List KF → (sp off nv nt : Nat) → List IC
  | [], sp, off, _, nt => if E.hasFx then [.seq (.blk [⟨some nt, .mv (.tmp E.fx), none⟩]) (.cond (.tmp nt) (rdF sp E.b (nt + 1) off rt) .skip)] else []
  | f :: fs, sp, off, nv, nt => seqs (initF f.init nv ++ [f.r.gen E nv nt, stF sp nv (nt + f.r.nt E.hasFx) off f.d.size]) :: flGen E rt fs sp (off + f.d.size) (nv + 1) (nt + (VC.nt .all + f.r.nt E.hasFx + 4))
def kHead (E : RE) (sr : Nat) (uvr span : FuncId) (T : Nat) : IC :=
  .blk [⟨some T, .call uvr [.tmp E.b], none⟩, ⟨some (T + 1), .conv .i64 (.tmp T), none⟩, ⟨some (T + 2), .call span [.tmp E.b, .tmp (T + 1)], none⟩, ⟨some (T + 3), .build [.slice none 0 0, .bool false] [(0, 1, .tmp (T + 2))], none⟩,
    ⟨some sr, .alloc [.slice none 0 0, .bool false], none⟩, ⟨none, .st (.tmp sr) 2 (.tmp (T + 3)), none⟩]
def kTail (E : RE) (sr er T : Nat) : List IC :=
  [.blk [⟨some T, .call E.cpl [.tmp sr], none⟩, ⟨some er, .mv (.tmp T), none⟩],
    .blk [⟨some (T + 1), .mv (.tmp er), none⟩, ⟨some (T + 2), .isnil .ic true (.tmp (T + 1)), none⟩],
    .cond (.tmp (T + 2)) (.seq (.blk [⟨some (T + 3), .mv (.tmp er), none⟩, ⟨some E.ret, .mv (.tmp (T + 3)), none⟩]) .ret) .skip]
def KCase.gen (E : RE) (sp off sr nb : Nat) (uvr span : FuncId) (c : KCase) (T : Nat) : List IC :=
  kHead E sr uvr span T :: match c.lst with
  | none => [.blk [⟨some (T + 4), .mv (.tmp sp), none⟩, ⟨some (T + 4 + 1), .nilc (.tmp (T + 4)), none⟩, ⟨some (T + 4 + 2), .fad (.tmp (T + 4 + 1)) off, none⟩, ⟨some (sr + 1), .mv (.tmp (T + 4 + 2)), none⟩],
      .blk [⟨some (T + 4 + 3), .mv (.tmp (sr + 1)), none⟩, ⟨some (T + 4 + 4), .call c.dfl [.tmp (T + 4 + 3)], none⟩], cpF (sr + 1) (sr + 1 + 1) (T + 4 + 5)] ++
      (flGen { E with b := sr } c.rt c.fs (sr + 1 + 1) 0 (sr + 1 + 2) (T + 4 + 6) ++ kTail E sr (sr + 3 + c.fs.length) (T + 10 + flNt E.hasFx c.fs))
  | some (len, b, z) => lstL { E with b := sr } sp off (sr + 1) nb len ⟨b, none⟩ z (6 + flNt E.hasFx c.fs)
        (fun t => elF (sr + 1) t z.length c.dfl ++ flGen { E with b := sr } c.rt c.fs (sr + 1 + 5) 0 (sr + 1 + 6) (t + 6)) (T + 4) ++
      kTail E sr (sr + 7 + c.fs.length) (T + 4 + (len.nt E.hasFx + flNt E.hasFx c.fs + 31))
def ktUnk (sp eb key off : Nat) (uvr span set : FuncId) (T : Nat) : IC :=
  .drw [⟨⟨some T, .mv (.tmp sp), none⟩, false, []⟩, ⟨⟨some (T + 1), .nilc (.tmp T), none⟩, false, []⟩, ⟨⟨some (T + 2), .fad (.tmp (T + 1)) off, none⟩, false, []⟩, ⟨⟨some (T + 3), .mv (.tmp key), none⟩, false, []⟩,
      ⟨⟨some (T + 4), .call uvr [.tmp eb], none⟩, true, []⟩, ⟨⟨some (T + 5), .conv .i64 (.tmp (T + 4)), none⟩, false, [4]⟩, ⟨⟨some (T + 6), .call span [.tmp eb, .tmp (T + 5)], none⟩, true, [4]⟩, ⟨⟨some (T + 7), .call set [.tmp (T + 2), .tmp (T + 3), .tmp (T + 6)], none⟩, true, [4, 6]⟩] []
def kChain (E : RE) (sp key q dT mo : Nat) (uvr span set : FuncId) : List KCase → (off sr T nb : Nat) → IC
  | [], _, _, _, _ => ktUnk sp E.b key mo uvr span set dT
  | c :: cs, off, sr, T, nb => .seq (.blk [⟨some (T + 1), .bin .eql (.tmp q) (.const (.int .u32 c.tag)), none⟩, ⟨some T, .mv (.tmp (T + 1)), none⟩])
      (.cond (.tmp T) (seqs (c.gen E sp off sr nb uvr span (T + 2))) (kChain E sp key q dT mo uvr span set cs (off + c.cs0.length) (sr + c.nv) (T + 2 + c.nt E.hasFx) (nb + c.nb)))
def ktgGen (E : RE) (sp off mo nv nt nb : Nat) (cs : List KCase) (uvr span set : FuncId) : IC :=
  .seq (.blk [⟨some nt, .mv (.tmp E.fx), none⟩]) (.cond (.tmp nt)
    (.seq (.blk [⟨some (nt + 1), .call uvr [.tmp E.b], none⟩, ⟨some nv, .mv (.tmp (nt + 1)), none⟩])
      (.block nb (.loop (.seq (.seq (.blk [⟨some (nt + 2), .mv (.tmp nv), none⟩, ⟨some (nt + 3), .bin .gtr (.tmp (nt + 2)) (.const (.int .u32 0)), none⟩]) (.cond (.tmp (nt + 3)) .skip (.exit nb)))
        (.seq (.block (nb + 1) (.seq (.blk [⟨some (nt + 6), .call uvr [.tmp E.b], none⟩, ⟨some (nv + 1), .mv (.tmp (nt + 6)), none⟩])
          (.seq (.blk [⟨some (nt + 7), .mv (.tmp (nv + 1)), none⟩])
          (.block (nb + 2) (kChain E sp (nv + 1) (nt + 7) (nt + 8) mo uvr span set cs off (nv + 2) (nt + 16) (nb + 3))))))
        (.blk [⟨some (nt + 4), .mv (.tmp nv), none⟩, ⟨some (nt + 5), .bin .sub (.tmp (nt + 4)) (.const (.int .u32 1)), none⟩, ⟨some nv, .mv (.tmp (nt + 5)), none⟩]))))))
    .skip)
def Sc.gen (E : RE) : Sc → (sp off nv nt nb : Nat) → List IC
  | .nil, _, _, _, _, _ => []
  | .prm vc init r _ d rest, sp, off, nv, nt, nb =>
    vc.wrap E nt (fun t => seqs (initF init nv ++ [r.gen E nv t, stF sp nv (t + r.nt E.hasFx) off d.size])) ::
      rest.gen E sp (off + d.size) (nv + 1) (nt + (vc.nt + r.nt E.hasFx + 4)) nb
  | .enm vc init r _ d rest, sp, off, nv, nt, nb =>
    vc.wrap E nt (fun t => seqs [cF nv init, seqs [r.gen E (nv + 1) t, cpF (nv + 1) nv (t + r.nt E.hasFx)], cpF nv (nv + 2) (t + r.nt E.hasFx + 1), stF sp (nv + 2) (t + r.nt E.hasFx + 2) off d.size]) ::
      rest.gen E sp (off + d.size) (nv + 3) (nt + (vc.nt + r.nt E.hasFx + 6)) nb
  | .lsp vc len bytes d init r _ rest, sp, off, nv, nt, nb =>
    vc.wrap E nt (lstF E sp off nv nb len bytes d.zero (r.nt E.hasFx + 4) fun t => initF init (nv + 4) ++ [r.gen E (nv + 4) t, stE nv (t + r.nt E.hasFx) d.size]) ::
      rest.gen E sp (off + 1) (nv + 5) (nt + (vc.nt + len.nt E.hasFx + r.nt E.hasFx + 29 + bytes.nt)) (nb + 2)
  | .lss vc len bytes z dfl body rest, sp, off, nv, nt, nb =>
    vc.wrap E nt (lstF E sp off nv nb len bytes z (6 + body.nt E.hasFx) fun t => elF nv t z.length dfl ++ body.gen E (nv + 5) 0 (nv + 6) (t + 6) (nb + 2)) ::
      rest.gen E sp (off + 1) (nv + (6 + body.nv)) (nt + (vc.nt + len.nt E.hasFx + body.nt E.hasFx + 31 + bytes.nt)) (nb + (2 + body.nb))
  | .sub vc dfl body rest, sp, off, nv, nt, nb =>
    vc.wrap E nt (fun t => seqs (
      [.blk [⟨some t, .mv (.tmp sp), none⟩, ⟨some (t + 1), .nilc (.tmp t), none⟩, ⟨some (t + 2), .fad (.tmp (t + 1)) off, none⟩, ⟨some nv, .mv (.tmp (t + 2)), none⟩],
       .blk [⟨some (t + 3), .mv (.tmp nv), none⟩, ⟨some (t + 4), .call dfl [.tmp (t + 3)], none⟩], cpF nv (nv + 1) (t + 5)] ++ body.gen E (nv + 1) 0 (nv + 2) (t + 6) nb)) ::
      rest.gen E sp (off + body.size) (nv + (2 + body.nv)) (nt + (vc.nt + 6 + body.nt E.hasFx)) (nb + body.nb)
  | .tags f, sp, off, _, nt, _ => if E.hasFx then [.seq (.blk [⟨some nt, .mv (.tmp E.fx), none⟩]) (.cond (.tmp nt) (rdF sp E.b (nt + 1) off f) .skip)] else []
  | .uid vc f rest, sp, off, nv, nt, nb => vc.wrap E nt (fun t => uidR sp E.b nv t off f) :: rest.gen E sp (off + 16) (nv + 1) (nt + (vc.nt + 5)) nb
  | .vst vc V r1 r2 rest, sp, off, nv, nt, nb => vc.wrap E nt (fun t => vstF E sp off nv V r1 r2 t) :: rest.gen E sp (off + 1) (nv + 2) (nt + (vc.nt + (2 + r1.nt E.hasFx + r2.nt E.hasFx + 4))) nb
  | .ktg cs mid uvr span set, sp, off, nv, nt, nb => mid.gen E sp (off + kSize cs) nv nt nb ++
      (if E.hasFx then [ktgGen E sp off (off + kSize cs + mid.size) (nv + mid.nv) (nt + mid.nt E.hasFx) (nb + mid.nb) cs uvr span set] else [])
theorem uvR_ne : ∀ (n : Nat) (l : List UInt8) (v k : Nat), uvR n l = some (v, k) → 1 ≤ k ∧ l ≠ []
  | 0, l, v, k, h => by simp [uvR] at h
  | n + 1, [], v, k, h => by simp [uvR] at h
  | n + 1, b :: r, v, k, h => by
    refine ⟨?_, by simp⟩
    simp only [uvR] at h
    split at h
    · split at h
      · simp at h
      · simp only [Option.some.injEq, Prod.mk.injEq] at h; omega
    · split at h
      · simp only [Option.some.injEq, Prod.mk.injEq] at h; omega
      · simp at h
end Go.Msk

namespace Go.Msk
open Go.RowKit
set_option maxRecDepth 100000
section
variable {P : Program} {E : RE}
theorem VR.wpS {u x : Bool} {ver : Int} {rb n A : Nat} {S : List Nat} {s : RS} {d : Nat} {dec : RS → GV × RS} {Q : Exit → Sl → World → Prop} :
    ∀ (r : VR) (t : Nat) (σ : Sl) (w : World) (c : Value), RV.Env E n rb u x ver σ → d < t → n ≤ t → RdG P (r.sel u x) 1 dec → IsRd (A :: S) w rb s → rb ∉ A :: S → (∀ y ∈ A :: S, y < w.heap.size) →
    σ d = .pointer (some ⟨A, 0, none⟩) → Blk w A [c] →
    (∀ σ' w' cs, (∀ j, j < t → σ' j = σ j) → Rep (rb :: A :: S) w' (dec s).1 cs → IsRd (A :: S) w' rb (dec s).2 → Blk w' A cs → Mod [rb, A] w w' → Q .normal σ' w') →
    wpC P (r.genS E d t) Q σ w := by
  intro r
  induction r with
  | call f =>
    intro t σ w c hE hd hn hR hr hrb hS hA hb hQ
    have hArb : A ≠ rb := fun e => hrb (by rw [e]; exact List.mem_cons_self)
    rw [VR.genS, wpC_blk]
    refine wpR_call (vs := [.pointer (some ⟨rb, 0, none⟩)]) (by simp only [List.map_cons, List.map_nil, ev, hE.hb]) (hR (A :: S) w rb s hr hrb hS) ?_
    rintro e w1 ⟨v, rfl, ⟨hv1, hv2⟩, hr1, hm1⟩
    refine ⟨v, rfl, ?_⟩
    have hl : v.cells.toList.length = 1 := by simpa using hv1
    have hb1 : Blk w1 A [c] := hb.mod hm1 (by simpa using hArb)
    refine wpR_run ?_
    simp only [RK.run, ev, updo, upd, show d ≠ t by omega, if_false, if_true, hA]
    have hput : Mod [A] w1 (putCells w1 ⟨A, 0, none⟩ 0 v.cells.toList) := Mod.put (by simp)
    have hp := hb1.put (o := 0) (vs := v.cells.toList) (by simp [hl])
    rw [splice_all (by rw [hl]; rfl)] at hp
    refine ⟨hv1, stOk_many hb1 (by simp [hl]) hv2.oneCell, ?_⟩
    simp only [wpR]
    refine hQ _ _ v.cells.toList (fun j hj => ?_) (hv2.mod hput (by simp)) (hr1.mod hput (by simpa using hArb.symm) (by simp)) hp ((hm1.mono (by simp)).trans (hput.mono (by simp)))
    exact upd_ne _ _ (by omega)
  | uns a b iha ihb =>
    intro t σ w c hE hd hn hR hr hrb hS hA hb hQ
    simp only [VR.genS, wpC, wpR, RI.wp, gOk, RK.run, if_true, ev, thenC, updo, upd_same, hE.hu]
    have hag : Ag t σ (upd σ t (.bool u)) := (Ag.refl _ _).upd (Nat.le_refl _)
    have hE' : RV.Env E n rb u x ver (upd σ t (.bool u)) := hE.ag (hag.mono hn) (Nat.le_refl _)
    have hA' : upd σ t (.bool u) d = .pointer (some ⟨A, 0, none⟩) := (hag d hd).trans hA
    cases u with
    | true =>
      refine iha (t + 1) _ w c hE' (by omega) (by omega) hR hr hrb hS hA' hb fun σ' w' v h1 h2 h3 h4 h5 => hQ σ' w' v (fun j hj => ?_) h2 h3 h4 h5
      rw [h1 j (by omega)]; exact hag j hj
    | false =>
      refine ihb _ _ w c hE' (by omega) (by omega) hR hr hrb hS hA' hb fun σ' w' v h1 h2 h3 h4 h5 => hQ σ' w' v (fun j hj => ?_) h2 h3 h4 h5
      rw [h1 j (by omega)]; exact hag j hj
  | flx a b iha ihb =>
    intro t σ w c hE hd hn hR hr hrb hS hA hb hQ
    cases hf : E.hasFx with
    | false =>
      have h0 := hE.h0 hf
      subst h0
      simp only [VR.genS, hf, Bool.false_eq_true, if_false]
      exact ihb t σ w c hE hd hn hR hr hrb hS hA hb hQ
    | true =>
      simp only [VR.genS, hf, if_true, wpC, wpR, RI.wp, gOk, RK.run, ev, thenC, updo, upd_same, hE.hx hf]
      have hag : Ag t σ (upd σ t (.bool x)) := (Ag.refl _ _).upd (Nat.le_refl _)
      have hE' : RV.Env E n rb u x ver (upd σ t (.bool x)) := hE.ag (hag.mono hn) (Nat.le_refl _)
      have hA' : upd σ t (.bool x) d = .pointer (some ⟨A, 0, none⟩) := (hag d hd).trans hA
      cases x with
      | true =>
        refine iha (t + 1) _ w c hE' (by omega) (by omega) hR hr hrb hS hA' hb fun σ' w' v h1 h2 h3 h4 h5 => hQ σ' w' v (fun j hj => ?_) h2 h3 h4 h5
        rw [h1 j (by omega)]; exact hag j hj
      | false =>
        refine ihb _ _ w c hE' (by omega) (by omega) hR hr hrb hS hA' hb fun σ' w' v h1 h2 h3 h4 h5 => hQ σ' w' v (fun j hj => ?_) h2 h3 h4 h5
        rw [h1 j (by omega)]; exact hag j hj
end
end Go.Msk

namespace Go.Msk
open Go.RowKit
set_option maxRecDepth 100000
def DfC (P : Program) (f : FuncId) (z d : List Value) : Prop :=
  ∀ (w : World) (B : Nat) (pre post : List Value), Blk w B (pre ++ (z ++ post)) →
    Calls P f [.pointer (some ⟨B, pre.length, none⟩)].toArray w fun e w' => e = .returned (.tuple #[]) ∧ Blk w' B (pre ++ (d ++ post)) ∧ Mod [B] w w'
def PK.size : PK → Nat
  | .uuid => 16
  | _ => 1
def Dec.Short (D : Dec) : Prop := ∀ x s, (D.len x s).1 ≤ (D.len x s).2.src.length ∧ (D.len x s).1 ≤ 2147483647
def Sc.Does (P : Program) (E : RE) (D : Dec) (g rb : Nat) (Te : TypeId) (ve : Value) (u x : Bool) (ver : Int) (sc : Sc) : Prop :=
  ∀ (sp off nv nt nb B base : Nat) (S : List Nat) (s : RS) (pre post : List Value) (σ : Sl) (w : World) (Q : Exit → Sl → World → Prop),
    RV.Env E nv rb u x ver σ → sp < nv → nv + sc.nv ≤ nt → σ sp = .pointer (some ⟨B, base, none⟩) → pre.length = base + off →
    IsRd S w rb s → rb ∉ S → B ∈ S → (∀ y ∈ S, y < w.heap.size) → GErr g w Te ve → g ∉ rb :: S → Blk w B (pre ++ (sc.dcs.flatten ++ post)) →
    (match sc.dec D ver x s with
      | some (gs, s') => ∀ σ' w' css, Ag nv σ σ' → Mod [rb, B] w w' → IsRd S w' rb s' → RepL (rb :: S) w' gs css → css.flatten.length = sc.dcs.flatten.length → Blk w' B (pre ++ (css.flatten ++ post)) → Q .normal σ' w'
      | none => ∀ σ' w', Mod [rb, B] w w' → σ' E.ret = .iface Te ve → Q .ret σ' w') →
    wpL P (sc.gen E sp off nv nt nb) Q σ w
def KtgC (P : Program) (D : Dec) (u x : Bool) (sc : Sc) : Prop :=
  ∀ (E : RE) (g rb : Nat) (Te : TypeId) (ve : Value) (ver : Int), CplC P E.cpl g → OkC P E.ok → D.Short → sc.Does P E D g rb Te ve u x ver
def Sc.Ok (P : Program) (D : Dec) (u x : Bool) : Sc → Prop
  | .nil => True
  | .prm _ _ r p d rest => RdG P (r.sel u x) p.size (D.prim p x) ∧ p.size = d.size ∧ rest.Ok P D u x
  | .enm _ _ r p d rest => RdG P (r.sel u x) p.size (D.prim p x) ∧ p.size = d.size ∧ rest.Ok P D u x
  | .lsp _ len bytes d _ r p rest => RdL P (len.sel u x) (D.len x) ∧ bytes.b ≤ 32768 ∧ RdG P (r.sel u x) p.size (D.prim p x) ∧ p.size = d.size ∧ rest.Ok P D u x
  | .lss _ len bytes z dfl body rest => RdL P (len.sel u x) (D.len x) ∧ bytes.b ≤ 32768 ∧ z.length = body.size ∧ DfC P dfl z body.dcs.flatten ∧ body.Ok P D u x ∧ rest.Ok P D u x
  | .sub _ dfl body rest => DfC P dfl body.dcs.flatten body.dcs.flatten ∧ body.Ok P D u x ∧ rest.Ok P D u x
  | .tags f => x = true → RdG P f 1 fun s => (.tag (D.tags s).1, (D.tags s).2)
  | .uid _ f rest => RdG P f 16 (D.prim .uuid x) ∧ rest.Ok P D u x
  | .vst _ _ r1 r2 rest => RdG P (r1.sel u x) 1 (D.prim .str x) ∧ RdG P (r2.sel u x) 1 (D.prim .nstr x) ∧ (∀ s, ∃ l, (D.prim .str x s).1 = .num (Msk.str l)) ∧ rest.Ok P D u x
  | .ktg cs mid a b c => KtgC P D u x (.ktg cs mid a b c)
section
variable {P : Program} {E : RE} {D : Dec}
theorem VC.wrap_wp {vc : VC} {f : Nat → IC} {n rb : Nat} {u x : Bool} {ver : Int} {t : Nat} {σ : Sl} {w : World} {Q : Exit → Sl → World → Prop} (hE : RV.Env E n rb u x ver σ) (hn : n ≤ t)
    (h1 : vc.holds ver = true → ∀ σ', Ag t σ σ' → wpC P (f (t + vc.nt)) Q σ' w) (h0 : vc.holds ver = false → ∀ σ', Ag t σ σ' → Q .normal σ' w) : wpC P (vc.wrap E t f) Q σ w := by
  cases vc with
  | all => exact h1 rfl σ (Ag.refl _ _)
  | ge k =>
    have lv := hE.lv
    simp only [VC.wrap, wpC, wpR, RI.wp, gOk, if_true, RK.run, ev, updo]
    simp only [upd, if_true, hE.hv, isShift, decide_true, Bool.or_true, intBin, thenC]
    have hag : ∀ v, Ag t σ (fun j => if j = t + 1 then v else if j = t then Value.int .i16 ver else σ j) := fun v j hj => by
      simp only [show j ≠ t by omega, show j ≠ t + 1 by omega, if_false]
    cases hh : decide (ver ≥ k) with
    | true => exact h1 (by simpa [VC.holds] using hh) _ (hag _)
    | false => exact h0 (by simpa [VC.holds] using hh) _ (hag _)
  | rng a b =>
    have lv := hE.lv
    simp only [VC.wrap, wpC, wpR, RI.wp, gOk, if_true, RK.run, ev, updo]
    have hag : ∀ σ', (∀ j, j < t → σ' j = σ j) → Ag t σ σ' := fun σ' h => h
    simp only [upd, if_true, hE.hv, isShift, decide_true, Bool.or_true, intBin, thenC, show E.vs ≠ t + 2 by omega, show E.vs ≠ t + 1 by omega, show E.vs ≠ t by omega, if_false, show t + 2 ≠ t + 3 by omega, show t + 2 ≠ t + 4 by omega]
    cases hh : decide (ver ≥ a) with
    | true =>
      simp only [beq_self_eq_true, if_true]
      cases hh2 : decide (ver ≤ b) with
      | true =>
        refine h1 (by simp only [VC.holds, hh, hh2, Bool.and_self]) _ fun j hj => ?_
        simp only [upd, show j ≠ t by omega, show j ≠ t + 1 by omega, show j ≠ t + 2 by omega, show j ≠ t + 3 by omega, show j ≠ t + 4 by omega, show j ≠ t + 5 by omega, if_false]
      | false =>
        refine h0 (by simp only [VC.holds, hh, hh2, Bool.and_false]) _ fun j hj => ?_
        simp only [upd, show j ≠ t by omega, show j ≠ t + 1 by omega, show j ≠ t + 2 by omega, show j ≠ t + 3 by omega, show j ≠ t + 4 by omega, show j ≠ t + 5 by omega, if_false]
    | false =>
      have hbf : (false == true) = false := rfl
      simp only [hbf, Bool.false_eq_true, if_false]
      refine h0 (by simp only [VC.holds, hh, Bool.false_and]) _ fun j hj => ?_
      simp only [upd, show j ≠ t by omega, show j ≠ t + 1 by omega, show j ≠ t + 2 by omega, show j ≠ t + 3 by omega, show j ≠ t + 4 by omega, show j ≠ t + 5 by omega, if_false]
theorem stE_wp {nv t n A i k c : Nat} {σ : Sl} {w : World} {v : Value} {cs : List Value} {Q : Exit → Sl → World → Prop} (ha : σ (nv + 1) = .slice (some ⟨A, 0, none⟩) k c) (hi : σ (nv + 3) = .int .i32 i)
    (hx : σ (nv + 4) = v) (hik : i < k) (hb : Blk w A cs) (ho : i * n + v.cells.toList.length ≤ cs.length) (hv : v.cells.size = n) (h1 : ∀ y ∈ v.cells.toList, y.oneCell' = true) (lt : nv + 5 ≤ t)
    (hQ : ∀ σ', Ag t σ σ' → Q .normal σ' (putCells w ⟨A, i * n, none⟩ 0 v.cells.toList)) : wpC P (stE nv t n) Q σ w := by
  simp only [stE, wpC, wpR, RI.wp, gOk, if_true, RK.run, ev, updo]
  simp only [upd, if_true, ha, hi, hx, show nv + 3 ≠ t by omega, show nv + 4 ≠ t by omega, show nv + 4 ≠ t + 1 by omega, show t ≠ t + 1 by omega, show t ≠ t + 2 by omega, show t + 1 ≠ t + 2 by omega,
    show t + 2 ≠ t + 3 by omega, if_false, Int.toNat_natCast, Addr.add_mk, Nat.zero_add]
  refine ⟨by omega, by omega, hv, stOk_many hb ho h1, hQ _ ?_⟩
  intro j hj
  simp only [upd, show j ≠ t by omega, show j ≠ t + 1 by omega, show j ≠ t + 2 by omega, show j ≠ t + 3 by omega, if_false]
theorem roomF_wp {nv t bytes : Nat} {z : List Value} {n : Int} {σ : Sl} {w : World} {base : Option Addr} {Q : Exit → Sl → World → Prop} (ha : σ (nv + 1) = .slice base 0 0) (hl : σ (nv + 2) = .int .i32 n)
    (hn : n ≤ 2147483647) (hby : bytes ≤ 32768) (lt : nv + 4 ≤ t)
    (h0 : n ≤ 0 → ∀ σ', (∀ j, j < t → j ≠ nv + 1 → σ' j = σ j) → σ' (nv + 1) = .slice base 0 0 → Q .normal σ' w)
    (h1 : 0 < n → ∀ σ' w' c rest, (∀ j, j < t → j ≠ nv + 1 → σ' j = σ j) → n.toNat ≤ c → σ' (nv + 1) = .slice (some ⟨w.heap.size, 0, none⟩) n.toNat c →
      Blk w' w.heap.size (zrep n.toNat z ++ rest) → Mod [] w w' → Q .normal σ' w') : wpL P (roomF nv t bytes z) Q σ w := by
  simp only [roomF, wpL, wpC, wpR, RI.wp, gOk, if_true, RK.run, ev, updo, thenC]
  simp only [upd, if_true, ha, hl, bnd, ev, show nv + 1 ≠ t by omega, show nv + 2 ≠ nv + 1 by omega, show nv + 2 ≠ t by omega, show nv + 2 ≠ t + 1 by omega, show nv + 1 ≠ t + 2 by omega, show nv + 1 ≠ t + 1 by omega,
    show nv + 1 ≠ t + 3 by omega, show nv + 2 ≠ t + 2 by omega, show nv + 2 ≠ t + 3 by omega, show nv + 2 ≠ t + 4 by omega, show t + 4 ≠ t + 5 by omega, if_false]
  refine ⟨by omega, by omega, by simp, by simp, ?_⟩
  simp only [isShift, decide_true, Bool.or_true, intBin, if_true, Int.toNat_zero, Int.toNat_natCast, Nat.sub_zero]
  by_cases hp : n > 0
  · have hd : decide (n > 0) = true := by simpa using hp
    simp only [hd, appendRun]
    have hn1 : n.toNat ≤ 2147483647 := by omega
    have hmul : n.toNat * bytes ≤ 2147483647 * 32768 := Nat.mul_le_mul hn1 hby
    have hmul' : (n * bytes : Int) ≤ 70368744177664 := by
      have : n * (bytes : Int) ≤ 2147483647 * 32768 := Int.mul_le_mul hn (by omega) (by omega) (by omega)
      omega
    refine ⟨by omega, hmul', by omega, ?_⟩
    rw [if_neg (by omega)]
    simp only [Nat.zero_add, Nat.zero_mul]
    refine ⟨by omega, by omega, ?_⟩
    cases base
    case' some a => simp only [cellsAt]
    all_goals
      intro T cap rest hc hr
      simp only [List.nil_append]
      refine h1 (by omega) _ _ cap rest ?_ (by omega) (by simp [upd]) ?_ ?_
      · intro j hj hne
        simp only [upd, hne, show j ≠ t by omega, show j ≠ t + 1 by omega, show j ≠ t + 2 by omega, show j ≠ t + 3 by omega, show j ≠ t + 4 by omega, show j ≠ t + 5 by omega, show j ≠ t + 6 by omega, if_false]
      · exact Blk.new w.drew _ T
      · exact (Mod.drew _ _).trans (Mod.alloc _ _ _)
  · have hd : decide (n > 0) = false := by simpa using hp
    simp only [hd]
    refine h0 (by omega) _ ?_ ?_
    · intro j hj hne
      simp only [upd, hne, show j ≠ t by omega, show j ≠ t + 1 by omega, show j ≠ t + 2 by omega, show j ≠ t + 3 by omega, if_false]
    · simp only [upd, show nv + 1 ≠ t + 2 by omega, show nv + 1 ≠ t + 3 by omega, if_false, if_true]
theorem IsRd.fresh {S : List Nat} {w w' : World} {rb A : Nat} {s : RS} (h : IsRd S w rb s) (hm : Mod [] w w') (hA : w.heap.size ≤ A) : IsRd (A :: S) w' rb s := by
  obtain ⟨base, len, cap, h1, h2, hn, h3⟩ := h.ex
  refine ⟨⟨base, len, cap, h1.mod hm (by simp), h2.mod hm (by simp), hn, fun a ha => ?_⟩, h.short⟩
  obtain ⟨k1, k2, k3⟩ := h3 a ha
  refine ⟨k1, ?_, Nat.lt_of_lt_of_le k3 hm.size⟩
  simp only [List.mem_cons, not_or]
  exact ⟨by omega, k2⟩
theorem IsRd.weaken {S S' : List Nat} {w : World} {rb : Nat} {s : RS} (h : IsRd S w rb s) (hS : ∀ y ∈ S', y ∈ S) : IsRd S' w rb s := by
  obtain ⟨base, len, cap, h1, h2, hn, h3⟩ := h.ex
  exact ⟨⟨base, len, cap, h1, h2, hn, fun a ha => ⟨(h3 a ha).1, fun hc => (h3 a ha).2.1 (hS _ hc), (h3 a ha).2.2⟩⟩, h.short⟩
theorem wpR_skipG {k : RK} {d : Option Nat} {g : Nat × Bool} {r : List RI} {σ : Sl} {w : World} {Q : Sl → World → Prop} (hg : gOk (some g) σ = false) (h : wpR P r (updo σ d undef) w Q) : wpR P (⟨d, k, some g⟩ :: r) σ w Q := by
  simp only [wpR, RI.wp, hg]; exact h
theorem LB.setL_wp {lb : LB} {nv t rb : Nat} {z : List Value} {n ver : Int} {u x : Bool} {σ : Sl} {w : World} {l : List IC} {Q : Exit → Sl → World → Prop} (hE : RV.Env E nv rb u x ver σ) (ha : σ (nv + 1) = .slice none 0 0) (hl : σ (nv + 2) = .int .i32 n) (lt : nv + 4 ≤ t)
    (hQ : ∀ σ' w' base, (∀ j, j < t → j ≠ nv + 1 → σ' j = σ j) → σ' (nv + 1) = .slice base 0 0 → Mod [] w w' →
      (if lb.sets ver n then ∃ Z, base = some ⟨Z, 0, none⟩ ∧ w.heap.size ≤ Z ∧ Z < w'.heap.size else base = none) → wpL P l Q σ' w') : wpL P (lb.setL E nv t z ++ l) Q σ w := by
  obtain ⟨b, nul⟩ := lb
  cases nul with
  | none =>
    simp only [LB.setL, List.nil_append]
    exact hQ σ w none (fun _ _ _ => rfl) ha (Mod.refl _ _) (by simp [LB.sets])
  | some V =>
    have lv := hE.lv
    simp only [LB.setL, List.cons_append, List.nil_append, wpL, setF]
    have key : ∀ σ1 v, (∀ j, j < t → σ1 j = σ j) → σ1 (t + 5) = .bool v → v = LB.sets ⟨b, some V⟩ ver n →
        wpC P (.cond (.tmp (t + 5)) (.blk [⟨some (t + 6), .bslice 0 z [], none⟩, ⟨some (nv + 1), .mv (.tmp (t + 6)), none⟩]) .skip) (thenC (fun σ' w' => wpL P l Q σ' w') Q) σ1 w := by
      intro σ1 v a1 h5 hv
      cases v with
      | false =>
        rw [wpC_cond_f (by simp only [ev, h5]), wpC_skip]
        simp only [thenC]
        exact hQ σ1 w none (fun j hj _ => a1 j hj) ((a1 _ (by omega)).trans ha) (Mod.refl _ _) (by simp [← hv])
      | true =>
        rw [wpC_cond_t (by simp only [ev, h5]), wpC_blk]
        refine wpR_run ?_
        simp only [RK.run, List.map_nil, zrep, fillL]
        intro T
        refine wpR_step (v := .slice (some ⟨w.heap.size, 0, none⟩) 0 0) (by simp only [RK.val?, ev, updo, upd_same]) ?_
        refine wpR_done ?_
        refine hQ _ _ (some ⟨w.heap.size, 0, none⟩) (fun j hj hne => ?_) (by simp only [updo, upd_same]) (Mod.alloc _ _ _) ?_
        · simp only [updo, upd, hne, show j ≠ t + 6 by omega, if_false]
          exact a1 j hj
        · rw [← hv, if_pos rfl]
          exact ⟨_, rfl, Nat.le_refl _, by rw [World.size_alloc]; omega⟩
    rw [wpC_seq, wpC_blk]
    refine wpR_step (v := .int .i16 ver) (congrArg some hE.hv) ?_
    refine wpR_step (v := .bool (decide (ver < V))) (by simp [RK.val?, ev, updo, upd, isShift, intBin]) ?_
    refine wpR_step (v := .bool (decide (ver < V))) (by simp [RK.val?, ev, updo, upd]) ?_
    cases hh : decide (ver < V) with
    | true =>
      refine wpR_skipG (by simp [gOk, updo, upd]) ?_
      refine wpR_skipG (by simp [gOk, updo, upd]) ?_
      refine wpR_step (v := .bool true) (by simp [RK.val?, ev, updo, upd]) ?_
      refine wpR_done (key _ true (fun j hj => ?_) (by simp [updo, upd]) (by simp [LB.sets, hh]))
      simp only [updo, upd, show j ≠ t by omega, show j ≠ t + 1 by omega, show j ≠ t + 2 by omega, show j ≠ t + 3 by omega, show j ≠ t + 4 by omega, show j ≠ t + 5 by omega, if_false]
    | false =>
      refine wpR_stepG (v := .int .i32 n) (by simp [updo, upd]) (by simp only [RK.val?, ev, updo, upd, hl, show nv + 2 ≠ t by omega, show nv + 2 ≠ t + 1 by omega, show nv + 2 ≠ t + 2 by omega, if_false]) ?_
      refine wpR_stepG (v := .bool (decide (n = 0))) (by simp [updo, upd]) (by simp [RK.val?, ev, updo, upd, isShift, intBin]; rfl) ?_
      refine wpR_step (v := .bool (decide (n = 0))) (by simp [RK.val?, ev, updo, upd]) ?_
      refine wpR_done (key _ (decide (n = 0)) (fun j hj => ?_) (by simp [updo, upd]) (by simp [LB.sets, hh]))
      simp only [updo, upd, show j ≠ t by omega, show j ≠ t + 1 by omega, show j ≠ t + 2 by omega, show j ≠ t + 3 by omega, show j ≠ t + 4 by omega, show j ≠ t + 5 by omega, if_false]
theorem lstF_wp {g rb B base sp off nv nb t ne : Nat} {bytes : LB} {len : VR} {z pre post : List Value} {elem : Nat → List IC} {Te : TypeId} {ve : Value} {u x : Bool} {ver : Int} {S : List Nat} {s : RS} {σ : Sl} {w : World}
    {el : RS → Option (GV × RS)} {Q : Exit → Sl → World → Prop} (hok : OkC P E.ok) (hcpl : CplC P E.cpl g) (hsh : D.Short)
    (hE : RV.Env E nv rb u x ver σ) (ls : sp < nv) (lt : nv + 5 ≤ t) (hs : σ sp = .pointer (some ⟨B, base, none⟩)) (hpre : pre.length = base + off)
    (hr : IsRd S w rb s) (hrb : rb ∉ S) (hB : B ∈ S) (hS : ∀ y ∈ S, y < w.heap.size) (hg : GErr g w Te ve) (hgn : g ∉ rb :: S) (hb : Blk w B (pre ++ ([.slice none 0 0] ++ post)))
    (hlen : RdL P (len.sel u x) (D.len x)) (hby : bytes.b ≤ 32768)
    (hel : ∀ σ0 w0 A c n, Ag nv σ σ0 → σ0 (nv + 1) = .slice (some ⟨A, 0, none⟩) n c → Mod [rb] w w0 → w.heap.size ≤ A → A < w0.heap.size →
      ElC P (elem (t + 5 + len.nt E.hasFx + bytes.nt + 15)) E.ret (nv + 4) (nv + 3) n z.length A rb S z Te ve σ0 w0 el)
    (hQ : match decLst D x bytes ver z.length el s with
      | some (gv, s') => ∀ σ' w' v, Ag nv σ σ' → Mod [rb, B] w w' → IsRd S w' rb s' → Rep (rb :: S) w' gv [v] → Blk w' B (pre ++ ([v] ++ post)) → Q .normal σ' w'
      | none => ∀ σ' w', Mod [rb, B] w w' → σ' E.ret = .iface Te ve → Q .ret σ' w') :
    wpC P (lstF E sp off nv nb len bytes z ne elem t) Q σ w := by
  have hBrb : B ≠ rb := fun e => hrb (e ▸ hB)
  unfold lstF
  rw [wpC_seqs]
  simp only [List.cons_append, List.nil_append, wpL]
  refine ldF_wp (v := .slice none 0 0) hs hb ?_ (by omega) (by omega) fun σ1 a1 v1 => ?_
  · rw [← hpre]; simp
  refine cpF_wp (by omega) fun σ2 a2 v2 => ?_
  refine cF_wp ?_
  have g2 : Ag nv σ (upd σ2 (nv + 2) (.int .i32 0)) := fun j hj => by
    rw [upd_ne _ _ (by omega), a2 j (by omega) (by omega), a1 j (by omega) (by omega)]
  refine VR.wp len _ _ w (hE.ag g2 (Nat.le_refl _)) (by omega) (by omega) hlen hr hrb hS fun σ3 w3 v a3 v3 hv hr3 hm3 => ?_
  subst hv
  simp only [thenC]
  have g3 : Ag nv σ σ3 := fun j hj => by rw [a3 j (by omega) (by omega)]; exact g2 j hj
  have l3 : σ3 (nv + 1) = .slice none 0 0 := by rw [a3 _ (by omega) (by omega), upd_ne _ _ (by omega), v2, v1]
  refine LB.setL_wp (n := (D.len x s).1) (hE.ag g3 (Nat.le_refl _)) l3 v3 (by omega) fun σ3' w3' base0 a3' l3' hm3' hset => ?_
  have hlt3 : w.heap.size ≤ w3.heap.size := hm3.size
  have hrb3 : rb < w3.heap.size := hr3.lt
  replace hset : if bytes.sets ver (D.len x s).1 then ∃ Z, base0 = some ⟨Z, 0, none⟩ ∧ w3.heap.size ≤ Z ∧ Z < w3'.heap.size else base0 = none := hset
  have g3' : Ag nv σ σ3' := fun j hj => by rw [a3' j (by omega) (by omega)]; exact g3 j hj
  replace v3 : σ3' (nv + 2) = .int .i32 (D.len x s).1 := by rw [a3' _ (by omega) (by omega)]; exact v3
  replace hr3 := hr3.mod hm3' (by simp) (by simp)
  replace hm3 := hm3.trans hm3'.nil
  have hbn : nv + 4 ≤ t + 5 + len.nt E.hasFx + bytes.nt := by omega
  clear a3 a3' l3 g3 a1 a2 v1 v2 g2
  have g3 := g3'
  have l3 := l3'
  clear g3' l3'
  have hw33 : w3.heap.size ≤ w3'.heap.size := hm3'.size
  generalize hsz : w3.heap.size = sz3 at hset hrb3 hlt3 hw33
  clear hm3' hsz
  unfold lstR
  simp only [List.cons_append, wpL]
  have hg3 : GErr g w3' Te ve := cell_mod hg hm3 (by simp at hgn ⊢; exact hgn.1)
  refine okF_wp (hE.ag g3 (Nat.le_refl _)) (by omega) hr3 hg3 hok hcpl (fun hbad σ4 a4 => ?_) fun hbad σ4 r4 => ?_
  rotate_left
  · unfold decLst at hQ
    rw [if_pos hbad] at hQ
    simp only [thenC]
    exact hQ σ4 w3' (hm3.mono (by simp)) r4
  unfold decLst at hQ
  rw [if_neg (by simp [hbad])] at hQ
  have g4 : Ag nv σ σ4 := fun j hj => by rw [a4 j (by omega)]; exact g3 j hj
  obtain ⟨hsl, hsr⟩ := hsh x s
  simp only [thenC]
  rw [wpL_append]
  refine roomF_wp (n := (D.len x s).1) (by rw [a4 _ (by omega)]; exact l3) (by rw [a4 _ (by omega)]; exact v3) (by omega) hby (by omega) (fun hn0 σ5 a5 v5 => ?_) fun hn0 σ5 w5 c rest a5 hc v5 hb5 hm5 => ?_
  · have hz : (D.len x s).1.toNat = 0 := by omega
    simp only [hz, decList, LB.nil, hn0, decide_true, Bool.true_and] at hQ
    have g5 : Ag nv σ σ5 := fun j hj => by rw [a5 j (by omega) (by omega)]; exact g4 j hj
    simp only [thenC, wpL]
    refine loopF_zero (l := (D.len x s).1) (by rw [a5 _ (by omega) (by omega), a4 _ (by omega)]; exact v3) hn0 (by omega) fun σ6 a6 => ?_
    simp only [thenC]
    refine cpF_wp (by omega) fun σ7 a7 v7 => ?_
    simp only [thenC]
    have g7 : Ag nv σ σ7 := fun j hj => by rw [a7 j (by omega) (by omega), a6 j (by omega)]; exact g5 j hj
    have hb3 : Blk w3' B (pre ++ ([.slice none 0 0] ++ post)) := hb.mod hm3 (by simpa using hBrb)
    refine stF_wp (v := .slice base0 0 0) (by rw [g7 _ ls]; exact hs) (by rw [v7, a6 _ (by omega)]; exact v5) hb3 (by simp [Value.cells]; omega) (by simp [Value.cells]) (by simp [Value.cells, Value.oneCell']) (by omega) (by omega) fun σ8 a8 => ?_
    have hput : Mod [B] w3' (putCells w3' ⟨B, base + off, none⟩ 0 (Value.slice base0 0 0).cells.toList) := Mod.put (by simp)
    have hrep0 : Rep (rb :: S) (putCells w3' ⟨B, base + off, none⟩ 0 (Value.slice base0 0 0).cells.toList) (.lst (!bytes.sets ver (D.len x s).1) (if (!bytes.sets ver (D.len x s).1) = true then 0 else z.length) []) [.slice base0 0 0] := by
      cases hst : bytes.sets ver (D.len x s).1 with
      | false =>
        rw [hst] at hset
        have : base0 = none := by simpa using hset
        subst this
        exact .lst0
      | true =>
        rw [hst] at hset
        obtain ⟨Z, rfl, hZ1, hZ2⟩ : ∃ Z, base0 = some ⟨Z, 0, none⟩ ∧ sz3 ≤ Z ∧ Z < w3'.heap.size := by simpa using hset
        refine .lst1 (css := []) ?_ (Nat.lt_of_lt_of_le hZ2 hput.size) rfl (Nat.le_refl _) (fun _ h => by cases h) .nil ⟨rfl, fun i v h => by simp at h⟩
        simp only [List.mem_cons, not_or]
        exact ⟨by omega, fun hc => by have := hS _ hc; omega⟩
    refine hQ _ _ (.slice base0 0 0) (fun j hj => by rw [a8 j (by omega)]; exact g7 j hj) ((hm3.mono (by simp)).trans (hput.mono (by simp))) (hr3.mod hput (by simpa using hBrb.symm) (by simpa using hB)) hrep0 ?_
    have := hb3.put (o := base + off) (vs := (Value.slice base0 0 0).cells.toList) (by simp [Value.cells]; omega)
    have e : splice (pre ++ ([Value.slice none 0 0] ++ post)) (base + off) (Value.slice base0 0 0).cells.toList = pre ++ ([.slice base0 0 0] ++ post) := by
      rw [← hpre]; simp [splice, Value.cells]
    rw [e] at this; exact this
  · have hA : w.heap.size ≤ w3'.heap.size := hm3.size
    have hm35 : Mod [rb] w w5 := hm3.trans hm5.nil
    have hr5 : IsRd (w3'.heap.size :: S) w5 rb (D.len x s).2 := hr3.fresh hm5 (Nat.le_refl _)
    have g5 : Ag nv σ σ5 := fun j hj => by rw [a5 j (by omega) (by omega)]; exact g4 j hj
    have hz0 : ¬ (D.len x s).1 ≤ 0 := by omega
    simp only [LB.nil, hz0, decide_false, Bool.false_and, Bool.false_eq_true, if_false] at hQ
    simp only [thenC, wpL]
    have hcast : (D.len x s).1 = ((D.len x s).1.toNat : Int) := by omega
    have hmA : ∀ {w6 : World}, Mod [rb, w3'.heap.size] w5 w6 → Mod [rb] w w6 := fun h =>
      hm3.trans (Mod.drop (b := w3'.heap.size) (S := [rb]) ((hm5.nil).trans (h.mono (by simp))) (Nat.le_refl _))
    refine loopF_wp (n := (D.len x s).1.toNat) (by rw [a5 _ (by omega) (by omega), a4 _ (by omega), v3]; rw [← hcast]) (by omega) (by omega) rfl hb5 hr5
      (hel σ5 w5 w3'.heap.size c _ g5 v5 hm35 hA hb5.lt) ?_
    cases hd : decList el (D.len x s).1.toNat (D.len x s).2 with
    | none =>
      rw [hd] at hQ
      intro σ' w' hm' hret
      simp only [thenC]
      exact hQ σ' w' ((hmA hm').mono (by simp)) hret
    | some q =>
      obtain ⟨gs, s'⟩ := q
      rw [hd] at hQ
      intro σ6 w6 css a6 hm6 hr6 hrep hsz hln hb6
      simp only [thenC]
      refine cpF_wp (by omega) fun σ7 a7 v7 => ?_
      simp only [thenC]
      have g7 : Ag nv σ σ7 := fun j hj => by rw [a7 j (by omega) (by omega), a6 j (by omega)]; exact g5 j hj
      have hb6' : Blk w6 B (pre ++ ([.slice none 0 0] ++ post)) := hb.mod (hmA hm6) (by simpa using hBrb)
      have v8 : σ7 nv = .slice (some ⟨w3'.heap.size, 0, none⟩) (D.len x s).1.toNat c := by rw [v7, a6 _ (by omega)]; exact v5
      refine stF_wp (by rw [g7 _ ls]; exact hs) v8 hb6' (by simp [Value.cells]; omega) (by simp [Value.cells]) (by simp [Value.cells, Value.oneCell']) (by omega) (by omega) fun σ8 a8 => ?_
      have hput : Mod [B] w6 (putCells w6 ⟨B, base + off, none⟩ 0 (Value.slice (some ⟨w3'.heap.size, 0, none⟩) (D.len x s).1.toNat c).cells.toList) := Mod.put (by simp)
      have hAS : w3'.heap.size ∉ rb :: S := by
        simp only [List.mem_cons, not_or]
        exact ⟨fun e => by have := hr3.lt; omega, fun hc => by have := hS _ hc; omega⟩
      have hAB : w3'.heap.size ≠ B := fun e => hAS (by rw [e]; exact List.mem_cons_of_mem _ hB)
      refine hQ _ _ (.slice (some ⟨w3'.heap.size, 0, none⟩) (D.len x s).1.toNat c) (fun j hj => by rw [a8 j (by omega)]; exact g7 j hj) (((hmA hm6).mono (by simp)).trans (hput.mono (by simp)))
        ((hr6.weaken fun y hy => List.mem_cons_of_mem _ hy).mod hput (by simpa using hBrb.symm) (by simpa using hB)) ?_ ?_
      · refine .lst1 (css := css) hAS (Nat.lt_of_lt_of_le hb6.lt (by rw [size_putCells]; exact Nat.le_refl _)) (by rw [← hln, hrep.length]) hc hsz ?_ ?_
        · exact (hrep.weaken (O' := rb :: S) (fun y hy => by simp only [List.mem_cons] at hy ⊢; exact hy.imp id .inr)).mod hput (by simp [hB])
        · have := (hb6.mod hput (by simpa using hAB)).cells.take css.flatten.length
          simpa using this
      · have := hb6'.put (o := base + off) (vs := (Value.slice (some ⟨w3'.heap.size, 0, none⟩) (D.len x s).1.toNat c).cells.toList) (by simp [Value.cells]; omega)
        have e : splice (pre ++ ([Value.slice none 0 0] ++ post)) (base + off) (Value.slice (some ⟨w3'.heap.size, 0, none⟩) (D.len x s).1.toNat c).cells.toList = pre ++ ([.slice (some ⟨w3'.heap.size, 0, none⟩) (D.len x s).1.toNat c] ++ post) := by
          rw [← hpre]; simp [splice, Value.cells]
        rw [e] at this; exact this
end
end Go.Msk
