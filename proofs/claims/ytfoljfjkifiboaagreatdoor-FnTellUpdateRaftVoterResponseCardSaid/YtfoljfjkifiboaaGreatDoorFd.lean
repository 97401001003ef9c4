/- A small language of resolved operations, and what the generic and the generated functions do in it (part 4). -/
import Derived.Test.YtfoljfjkifiboaaGreatDoorFc
import Derived.Laws.BitsAllLaws
import Derived.Laws.BitsLemmas
import Derived.Laws.Bits64
namespace Go.Msk
open Go.RowKit
structure Mod (S:List Nat) (w w':World):Prop where
 os:w'.os=w.os
 tape:w'.tape=w.tape
 output:w'.output=w.output
 size:w.heap.size≤w'.heap.size
 block :∀k,k<w.heap.size→k ∉ S→w'.heap[k]?=w.heap[k]?
theorem Mod.refl (S:List Nat) (w:World):Mod S w w:=⟨rfl,rfl,rfl,Nat.le_refl _,fun _ _ _=>rfl⟩
theorem Mod.trans {S:List Nat} {a b c:World} (h:Mod S a b) (k:Mod S b c):Mod S a c :=
 ⟨k.os.trans h.os,k.tape.trans h.tape,k.output.trans h.output,Nat.le_trans h.size k.size,fun i hi hs=>(k.block i (Nat.lt_of_lt_of_le hi h.size) hs).trans (h.block i hi hs)⟩
theorem Mod.mono {S S':List Nat} {a b:World} (h:Mod S a b) (hs :∀x∈S,x∈S'):Mod S' a b :=
 ⟨h.os,h.tape,h.output,h.size,fun k hk hn=>h.block k hk fun e=>hn (hs k e)⟩
theorem Mod.nil {S:List Nat} {a b:World} (h:Mod [] a b):Mod S a b:=h.mono (by simp)
theorem Mod.drew (S:List Nat) (w:World):Mod S w w.drew:=⟨rfl,rfl,rfl,Nat.le_refl _,fun _ _ _=>rfl⟩
theorem Mod.alloc (S:List Nat) (w:World) (o:Obj):Mod S w (w.alloc o):=⟨rfl,rfl,rfl,by simp,fun k hk _=>Below.heap_alloc _ _ _ hk⟩
theorem Mod.only {S:List Nat} {b:Nat} {w w':World} (h:Only b w w') (hb:b∈S):Mod S w w' :=
 ⟨h.os,h.tape,h.output,Nat.le_of_eq h.size.symm,fun k _ hn=>h.block k fun e=>hn (e▸hb)⟩
theorem Mod.below {w w':World} (h:Mod [] w w'):Below w.heap.size w w':=⟨h.os,h.tape,h.output,h.size,fun k hk=>h.block k hk (by simp)⟩
theorem Mod.drop {S:List Nat} {b:Nat} {w w':World} (h:Mod (b::S) w w') (hb:w.heap.size≤b):Mod S w w' :=
 ⟨h.os,h.tape,h.output,h.size,fun k hk hn=>h.block k hk (by simp only [List.mem_cons,not_or];exact ⟨by omega,hn⟩)⟩
theorem Blk.mod {S:List Nat} {w w':World} {b:Nat} {cs:List Value} (h:Blk w b cs) (hm:Mod S w w') (hb:b ∉ S):Blk w' b cs :=
 h.of_heap (hm.block b h.lt hb)
theorem Cells.mod {S:List Nat} {w w':World} {a:Addr} {vs:List Value} (h:Cells w a vs) (hm:Mod S w w') (hb:vs=[]∨a.block ∉ S):Cells w' a vs:=by
 cases vs with
 | nil=>exact ⟨h.1,fun i v hv=>by simp at hv⟩
 | cons v vs=>exact h.of_eq (hm.block _ (h.lt (by simp)) (hb.resolve_left (by simp)))
structure qW (w:World) (base:Option Addr) (len cap:Nat) (l:List UInt8):Prop where
 hlen:len=l.length
 hcap:len≤cap
 hnone:base=.none→cap=0
 hcells :∀a,base=some a→Cells w a (u8s l)
theorem qW.nil (w:World):qW w .none 0 0 []:=⟨rfl,Nat.le_refl _,fun _=>rfl,fun a h=>by simp at h⟩
theorem qW.mod {S:List Nat} {w w':World} {base:Option Addr} {len cap:Nat} {l:List UInt8} (h:qW w base len cap l) (hm:Mod S w w')
 (hb :∀a,base=some a→a.block ∉ S):qW w' base len cap l :=
 ⟨h.hlen,h.hcap,h.hnone,fun a ha=>(h.hcells a ha).mod hm (.inr (hb a ha))⟩
theorem qW.lt {w:World} {base:Option Addr} {len cap:Nat} {l:List UInt8} (h:qW w base len cap l) {i:Nat} {b:UInt8} (hi:l[i]?=some b):i<len:=by
 rw [h.hlen]
 rcases Nat.lt_or_ge i l.length with h|h
 ·exact h
 ·rw [List.getElem?_eq_none h] at hi;simp at hi
theorem zR (v:Value):tup [v]=v:=rfl
theorem kY (l:List UInt8):(u8s l).length=l.length:=by simp [u8s]
theorem kLO (a b:List UInt8):u8s (a++b)=u8s a++u8s b:=by simp [u8s]
theorem kGB (l:List UInt8) (n:Nat):u8s (l.take n)=(u8s l).take n:=by simp [u8s]
theorem kKP (l:List UInt8) (n:Nat):u8s (l.drop n)=(u8s l).drop n:=by simp [u8s]
theorem kMV (l:List UInt8) (i:Nat):(u8s l)[i]?=(l[i]?).map fun b=>.int .u8 b.toNat:=by simp [u8s]
theorem kD9 :∀l:List UInt8,bytesOf (u8s l)=some l
 | []=>rfl
 | b::l=>by
   have ih:=kD9 l
   simp only [u8s,List.map_cons] at ih ⊢
   simp only [bytesOf,ih,Option.map_some]
   simp
theorem qW.get {w:World} {a:Addr} {len cap:Nat} {l:List UInt8} (h:qW w (some a) len cap l) {i:Nat} {b:UInt8} (hi:l[i]?=some b) :
 w.cell? (a.add i)=some (.int .u8 b.toNat):=(h.hcells a rfl).nth (by rw [kMV,hi];rfl)
theorem qW.drop {w:World} {base:Option Addr} {len cap:Nat} {l:List UInt8} (h:qW w base len cap l) (k:Nat) (hk:k≤len) :
  qW w (if cap=k then base else base.map (·.add (k*1))) (len-k) (cap-k) (l.drop k):=by
 have hc:=h.hcap
 have hl:=h.hlen
 refine ⟨by simp [hl],by omega,fun hn=>?_,fun a ha=>?_⟩
 ·split at hn
  ·rename_i e;omega
  ·have:base=.none:=by cases base<;>simp at hn ⊢
   rw [h.hnone this];omega
 ·split at ha
  ·rename_i e
   have:l.drop k=[]:=List.drop_eq_nil_of_le (by omega)
   rw [this]
   exact ⟨(h.hcells a ha).1,fun i v hv=>by simp [u8s] at hv⟩
  ·cases base with
   | none=>simp at ha
   | some b =>
     simp only [Option.map_some,Option.some.injEq,Nat.mul_one] at ha
     subst ha
     have hb:=h.hcells b rfl
     rw [Addr.kC7 hb.1,kKP]
     exact hb.sub k
theorem qW.take {w:World} {base:Option Addr} {len cap:Nat} {l:List UInt8} (h:qW w base len cap l) (k:Nat) (hk:k≤len) :
 qW w base k k (l.take k):=by
 have hl:=h.hlen
 have hc:=h.hcap
 refine ⟨by simp;omega,Nat.le_refl _,fun hn=>by have:=h.hnone hn;omega,fun a ha=>?_⟩
 rw [kGB];exact (h.hcells a ha).take k
structure RS where
 src:List UInt8
 bad:Bool
 isnil:Bool
 deriving Inhabited
def RS.fail:RS:=⟨[],true,true⟩
structure IsRd (S:List Nat) (w:World) (rb:Nat) (s:RS):Prop where
 ex :∃base len cap,Blk w rb [.slice base len cap,.bool s.bad]∧qW w base len cap s.src∧base.isNone=s.isnil∧(∀a,base=some a→a.block≠rb∧a.block ∉ S∧a.block<w.heap.size)
 short:s.src.length≤1152921504606846976
theorem IsRd.mod {S T:List Nat} {w w':World} {rb:Nat} {s:RS} (h:IsRd S w rb s) (hm:Mod T w w') (hrb:rb ∉ T) (hT :∀x∈T,x∈S):IsRd S w' rb s:=by
 obtain ⟨base,len,cap,h1,h2,hn,h3⟩:=h.ex
 exact ⟨⟨base,len,cap,h1.mod hm hrb,h2.mod hm (fun a ha hc=>(h3 a ha).2.1 (hT _ hc)),hn,fun a ha=>⟨(h3 a ha).1,(h3 a ha).2.1,Nat.lt_of_lt_of_le (h3 a ha).2.2 hm.size⟩⟩,h.short⟩
theorem IsRd.lt {S:List Nat} {w:World} {rb:Nat} {s:RS} (h:IsRd S w rb s):rb<w.heap.size:=by
 obtain ⟨base,len,cap,h1,-⟩:=h.ex;exact h1.lt
theorem yN {w:World} {b o:Nat} {cs:List Value} {v:Value} (h:Blk w b cs) (ho:o<cs.length) (hv:v.oneCell'=true):StOk w ⟨b,o,none⟩ [v] :=
 ⟨rfl,.inr ⟨cs,h,by simp;omega⟩,by simpa using hv⟩
theorem qL {w:World} {b o:Nat} {cs vs:List Value} (h:Blk w b cs) (ho:o+vs.length≤cs.length) (hv :∀v∈vs,v.oneCell'=true):StOk w ⟨b,o,none⟩ vs :=
 ⟨rfl,.inr ⟨cs,h,ho⟩,hv⟩
theorem Mod.put {S:List Nat} {w:World} {b o:Nat} {vs:List Value} (hb:b∈S):Mod S w (putCells w ⟨b,o,none⟩ 0 vs):=Mod.only (Only.putCells o vs w 0) hb
theorem Blk.put {w:World} {b o:Nat} {cs vs:List Value} (h:Blk w b cs) (ho:o+vs.length≤cs.length):Blk (Msk.putCells w ⟨b,o,none⟩ 0 vs) b (splice cs o vs):=by
 have:=Blk.putCells vs w cs o 0 h (by simpa using ho)
 simpa using this
theorem zX (w:World) (b o:Nat) (vs:List Value):(putCells w ⟨b,o,none⟩ 0 vs).heap.size=w.heap.size:=(Only.putCells o vs w 0).size
theorem jW {cs vs:List Value} (h:vs.length=cs.length):splice cs 0 vs=vs:=by
 simp [splice,h]
theorem wV (w:World) (z vs:List Value) (T:TypeId) (hl:vs.length=z.length) (hv :∀v∈vs,v.oneCell'=true) :
  StOk (w.alloc (.cells z.toArray T)) ⟨w.heap.size,0,none⟩ vs∧Blk (putCells (w.alloc (.cells z.toArray T)) ⟨w.heap.size,0,none⟩ 0 vs) w.heap.size vs ∧
  Mod [] w (putCells (w.alloc (.cells z.toArray T)) ⟨w.heap.size,0,none⟩ 0 vs):=by
 have h:=Blk.new w z T
 refine ⟨qL h (by omega) hv,?_,?_⟩
 ·have:=h.put (vs:=vs) (o:=0) (by omega)
  rwa [jW hl] at this
 ·exact Mod.drop (b:=w.heap.size) ((Mod.alloc _ _ _).trans (Mod.put (by simp))) (Nat.le_refl _)
theorem vV {S:List Nat} {w:World} {rb:Nat} {u v:Value} (h:Blk w rb [u,v]) :
 StOk w ⟨rb,1,none⟩ [.bool true]∧StOk (putCells w ⟨rb,1,none⟩ 0 [.bool true]) ⟨rb,0,none⟩ [.slice none 0 0] ∧
 IsRd S (putCells (putCells w ⟨rb,1,none⟩ 0 [.bool true]) ⟨rb,0,none⟩ 0 [.slice none 0 0]) rb RS.fail ∧
 Mod [rb] w (putCells (putCells w ⟨rb,1,none⟩ 0 [.bool true]) ⟨rb,0,none⟩ 0 [.slice none 0 0]):=by
 have h1:Blk (putCells w ⟨rb,1,none⟩ 0 [.bool true]) rb [u,.bool true]:=h.put (vs:=[.bool true]) (o:=1) (by simp)
 have h2:Blk (putCells (putCells w ⟨rb,1,none⟩ 0 [.bool true]) ⟨rb,0,none⟩ 0 [.slice none 0 0]) rb [.slice none 0 0,.bool true]:=h1.put (vs:=[.slice none 0 0]) (o:=0) (by simp)
 exact ⟨yN h (by simp) rfl,yN h1 (by simp) rfl,⟨⟨none,0,0,h2,qW.nil _,rfl,fun a ha=>by simp at ha⟩,by simp [RS.fail]⟩,(Mod.put (by simp)).trans (Mod.put (by simp))⟩
theorem kDE {S:List Nat} {w:World} {rb:Nat} {s:RS} {base:Option Addr} {len cap:Nat} (h:Blk w rb [.slice base len cap,.bool s.bad])
  (h2:qW w base len cap s.src) (hn:base.isNone=s.isnil) (ha :∀a,base=some a→a.block≠rb∧a.block ∉ S∧a.block<w.heap.size) (hs:s.src.length≤1152921504606846976) {k:Nat} (hk:k≤len) :
  StOk w ⟨rb,0,none⟩ [.slice (if cap=k then base else base.map (·.add (k*1))) (len-k) (cap-k)] ∧
  IsRd S (putCells w ⟨rb,0,none⟩ 0 [.slice (if cap=k then base else base.map (·.add (k*1))) (len-k) (cap-k)]) rb {s with src:=s.src.drop k} ∧
  Mod [rb] w (putCells w ⟨rb,0,none⟩ 0 [.slice (if cap=k then base else base.map (·.add (k*1))) (len-k) (cap-k)]):=by
 have hm:Mod [rb] w (putCells w ⟨rb,0,none⟩ 0 [.slice (if cap=k then base else base.map (·.add (k*1))) (len-k) (cap-k)]):=Mod.put (by simp)
 have hb :∀a,(if cap=k then base else base.map (·.add (k*1)))=some a→a.block≠rb∧a.block ∉ S∧a.block<w.heap.size:=by
  intro a h
  split at h
  ·exact ha a h
  ·cases base with
   | none=>simp at h
   | some b =>
     simp only [Option.map_some,Option.some.injEq] at h
     subst h
     have:=ha b rfl
     unfold Addr.add
     split<;>exact this
 refine ⟨yN h (by simp) rfl,⟨⟨_,_,_,h.put (vs:=[_]) (o:=0) (by simp),(h2.drop k hk).mod hm (fun a h=>by simpa using (hb a h).1),?_,fun a h=>?_⟩,by simp;omega⟩,hm⟩
 ·rw [←hn];split<;>simp
 ·rw [zX];exact hb a h
def kMW (w:World) (v:Value):Option (List UInt8)→Prop
 | none=>v=.slice none 0 0
 | some l =>∃a len cap,v=.slice (some a) len cap∧qW w (some a) len cap l
def j4 (P:Program) (l:List DI) (Φ:Nat→Value→World→Prop) (w0:World) (E:Sl→Prop):Nat→List DI→Sl→Prop
 | _,[],σ=>E σ
 | k,d::r,σ =>
 if gOk d.ri.guard σ=true then
 if d.node=true then
 (∀w,Mod [] w0 w→known l Φ d.deps σ w→d.ri.k.run P σ w fun v w'=>Mod [] w w'∧Φ k v w') ∧
 ∀v,(∃w,Φ k v w)→j4 P l Φ w0 E (k+1) r (updo σ d.ri.dst v)
 else match d.ri.k.val? σ w0 with
 | some v=>j4 P l Φ w0 E (k+1) r (updo σ d.ri.dst v)
 | none=>False
 else j4 P l Φ w0 E (k+1) r (updo σ d.ri.dst undef)
abbrev NT:Nat→World→Prop:=fun _ _=>True
theorem kMX {P:Program} {l:List DI} {Φ:Nat→Value→World→Prop} {w0:World} {E:Sl→Prop} :∀(r:List DI) (k:Nat) (σ:Sl),
  j4 P l Φ w0 E k r σ→walk P l (fun w w'=>Mod [] w w') Φ NT w0 E k r σ:=by
 intro r
 induction r with
 | nil=>intro k σ h;exact h
 | cons d r ih =>
   intro k σ h
   simp only [j4] at h
   simp only [walk]
   split at h
   ·rename_i hg
    rw [if_pos hg]
    split at h
    ·rename_i hn
     rw [if_pos hn]
     exact ⟨fun w h1 _ h2=>vO (h.1 w h1 h2) fun v w' hk=>⟨hk.1,hk.2,fun _ _ _=>trivial⟩,fun v hv=>ih _ _ (h.2 v hv)⟩
    ·rename_i hn
     rw [if_neg hn]
     split at h
     ·rename_i v hv
      exact ⟨v,fun w hw _=>kMO hw.below hv,ih _ _ h⟩
     ·exact h.elim
   ·rename_i hg
    rw [if_neg hg];exact ih _ _ h
theorem zM {P:Program} {l:List DI} {sinks:List RI} {σ:Sl} {w0:World} {Q:Sl→World→Prop} (Φ:Nat→Value→World→Prop)
 (hst :∀j v w w',Φ j v w→Mod [] w w'→Φ j v w')
 (h:j4 P l Φ w0 (fun σ' =>∀w,Mod [] w0 w→known l Φ (List.range l.length) σ' w→wpR P sinks σ' w Q) 0 l σ):wpD P l sinks σ w0 Q :=
 ⟨fun w w'=>Mod [] w w',Φ,NT,fun w=>Mod.refl _ w,fun _ _ _=>Mod.trans,hst,fun _=>trivial,kMX _ _ _ h⟩
@[simp] theorem known_nil (l:List DI) (Φ:Nat→Value→World→Prop) (σ:Sl) (w:World):known l Φ [] σ w↔True:=by simp [known]
theorem kGC {P:Program} {l:List DI} {sinks:List RI} {σ:Sl} {w0:World} {Q:Sl→World→Prop} (X:Value)
  (h:j4 P l (fun _ v _=>v=X) w0 (fun σ' =>∀w,Mod [] w0 w→wpR P sinks σ' w Q) 0 l σ):wpD P l sinks σ w0 Q:=by
 refine zM (fun _ v _=>v=X) (fun _ _ _ _ h _=>h) ?_
 have gen :∀(r:List DI) (k:Nat) (σ:Sl) (E E':Sl→Prop),(∀σ,E σ→E' σ)→j4 P l (fun _ v _=>v=X) w0 E k r σ→j4 P l (fun _ v _=>v=X) w0 E' k r σ:=by
  intro r
  induction r with
  | nil=>intro k σ E E' hE h;exact hE σ h
  | cons d r ih =>
    intro k σ E E' hE h
    simp only [j4] at h ⊢
    split at h
    ·rename_i hg
     rw [if_pos hg]
     split at h
     ·rename_i hn;rw [if_pos hn];exact ⟨h.1,fun v hv=>ih _ _ _ _ hE (h.2 v hv)⟩
     ·rename_i hn;rw [if_neg hn]
      split at h
      ·exact ih _ _ _ _ hE h
      ·exact h.elim
    ·rename_i hg;rw [if_neg hg];exact ih _ _ _ _ hE h
 exact gen l 0 σ _ _ (fun σ h w hw _=>h w hw) h
def kO2 (k:RK):Bool :=
 match k with
 | .alloc _|.box _|.bslice _ _ _|.s2b _|.mkslice _ _ _ _|.call _ _|.append _ _ _ _|.appendz _ _ _ _|.callv _ _|.invk _ _ _|.st _ _ _|.copy _ _ _|.mkmap|.mapup _ _ _|.mlen _|.mlook _ _ _|.mrng _|.mnext _|.mentry _=>false
 | _=>true
theorem kO3 {P:Program} {k:RK} {σ:Sl} {w:World} {K:Value→World→Prop} (hp:kO2 k=true) (h:k.run P σ w K) :∃v,k.val? σ w=some v∧K v w:=by
 cases k<;>first|(simp [kO2] at hp;done)|skip
 case mv x=>exact ⟨_,rfl,h⟩
 case mkfunc fn a b=>exact ⟨_,rfl,h⟩
 case mkif T x=>exact ⟨_,rfl,h⟩
 all_goals simp only [RK.run] at h
 case build z ps =>
  split at h<;>first|exact h.elim|skip
  rename_i hv;exact ⟨_,by simp only [RK.val?,hv,Option.map_some],h⟩
 case ld a =>
  split at h<;>first|exact h.elim|skip
  rename_i hx;split at h<;>first|exact h.elim|skip
  rename_i hv;exact ⟨_,by simp only [RK.val?,hx];exact hv,h⟩
 case ldn a n =>
  split at h<;>first|exact h.elim|skip
  rename_i hx;split at h<;>first|exact h.elim|skip
  rename_i hv;exact ⟨_,by simp only [RK.val?,hx,hv,Option.map_some],h⟩
 case bin op x y =>
  split at h
  ·rename_i hx hy
   split at h<;>first|exact h.elim|skip
   rename_i hc
   split at h<;>first|exact h.elim|skip
   rename_i hv;exact ⟨_,by simp only [RK.val?,hx,hy,hc,if_true,hv],h⟩
  ·rename_i hx hy
   split at h<;>first|exact h.elim|exact ⟨_,by simp only [RK.val?,hx,hy],h⟩
  ·exact h.elim
 case b2s x =>
  split at h
  ·rename_i hx;exact ⟨_,by simp only [RK.val?,hx],h⟩
  ·rename_i hx
   split at h<;>first|exact h.elim|skip
   rename_i hv;exact ⟨_,by simp only [RK.val?,hx,hv,Option.map_some],h⟩
  ·exact h.elim
 case iad x ix n =>
  split at h<;>first|exact h.elim|skip
  rename_i hx hi
  exact ⟨_,by simp only [RK.val?,hx,hi];rw [if_pos ⟨h.1,h.2.1⟩],h.2.2⟩
 case fld x k n =>
  split at h<;>first|exact h.elim|skip
  rename_i hx
  cases n with
  | none =>
    simp only at h;split at h<;>first|exact h.elim|skip
    rename_i hv;exact ⟨_,by simp only [RK.val?,hx,hv],h⟩
  | some n=>exact ⟨_,by simp only [RK.val?,hx],h⟩
 case ext x i =>
  split at h<;>first|exact h.elim|skip
  rename_i hx;split at h<;>first|exact h.elim|skip
  rename_i hv;exact ⟨_,by simp only [RK.val?,hx,hv],h⟩
 case slice x l hh m n =>
  split at h<;>first|exact h.elim|skip
  rename_i hx;split at h<;>first|exact h.elim|skip
  rename_i hl hhi hm
  exact ⟨_,by simp only [RK.val?,hx,hl,hhi,hm];rw [if_pos ⟨h.1,h.2.1,h.2.2.1,h.2.2.2.1⟩],h.2.2.2.2⟩
 case idx x i =>
  split at h<;>first|exact h.elim|skip
  rename_i hx hi;split at h<;>first|exact h.elim|skip
  rename_i hv;exact ⟨_,by simp only [RK.val?,hx,hi];rw [hv];rfl,h⟩
 case isnil k n x=>split at h<;>first|exact h.elim|(rename_i hx;exact ⟨_,by simp only [RK.val?,hx],h⟩)
 case mm m x y=>split at h<;>first|exact h.elim|(rename_i hx hy;exact ⟨_,by simp only [RK.val?,hx,hy],h⟩)
 case beq n x y=>split at h<;>first|exact h.elim|(rename_i hx hy;exact ⟨_,by simp only [RK.val?,hx,hy],h⟩)
 all_goals (split at h<;>first|exact h.elim|(rename_i hx;exact ⟨_,by simp only [RK.val?,hx],h⟩))
theorem kMY {P:Program} {l:List DI} {Φ:Nat→Value→World→Prop} {w0:World} {E:Sl→Prop} {sinks:List RI} {Q:Sl→World→Prop}
  (hE :∀σ,wpR P sinks σ w0 Q→E σ) :∀(r:List DI) (k:Nat) (σ:Sl),(r.all fun d=>!d.node&&kO2 d.ri.k)=true →
  wpR P (r.map (·.ri)++sinks) σ w0 Q→walk P l (fun w w'=>w'=w) Φ NT w0 E k r σ:=by
 intro r
 induction r with
 | nil=>intro k σ _ h;exact hE σ h
 | cons d r ih =>
   intro k σ hp h
   simp only [List.all_cons,Bool.and_eq_true,Bool.not_eq_true'] at hp
   obtain ⟨⟨hn,hk⟩,hr⟩:=hp
   simp only [List.map_cons,List.cons_append,wpR,RI.wp] at h
   simp only [walk]
   split at h
   ·rename_i hg
    rw [if_pos hg,if_neg (by rw [hn];simp)]
    obtain ⟨v,hv,hK⟩:=kO3 hk h
    exact ⟨v,fun w hw _=>by rw [hw];exact hv,ih _ _ hr hK⟩
   ·rename_i hg
    rw [if_neg hg];exact ih _ _ hr h
theorem xC {P:Program} {l:List DI} {sinks:List RI} {σ:Sl} {w0:World} {Q:Sl→World→Prop}
 (hp:(l.all fun d=>!d.node&&kO2 d.ri.k)=true) (h:wpR P (l.map (·.ri)++sinks) σ w0 Q):wpD P l sinks σ w0 Q :=
 ⟨fun w w'=>w'=w,fun _ _ _=>True,NT,fun _=>rfl,fun _ _ _ h1 h2=>h2.trans h1,fun _ _ _ _ h _=>h,fun _=>trivial,
 kMY (fun σ h w hw _=>by rw [hw];exact h) l 0 σ hp h⟩
theorem kFC {P:Program} {l:List DI} {R:World→World→Prop} {Φ:Nat→Value→World→Prop} {N:Nat→World→Prop} {w0:World} {E:Sl→Prop} {n:Nat} {k:RK} {d:Option Nat} {ds:List Nat} {r:List DI} {σ:Sl} {v:Value} (hv :∀w,R w0 w→k.val? σ w=some v)
 (h:walk P l R Φ N w0 E (n+1) r (updo σ d v)):walk P l R Φ N w0 E n (⟨⟨d,k,none⟩,false,ds⟩::r) σ:=by
 simp only [walk,gOk,if_true,Bool.false_eq_true,if_false]
 exact ⟨v,fun w hw _=>hv w hw,h⟩
theorem kLP {P:Program} {l:List DI} {R:World→World→Prop} {Φ:Nat→Value→World→Prop} {N:Nat→World→Prop} {w0:World} {E:Sl→Prop} {n:Nat} {k:RK} {d:Option Nat} {ds:List Nat} {r:List DI} {σ:Sl}
 (hn :∀w,R w0 w→N n w→known l Φ ds σ w→k.run P σ w fun v w'=>R w w'∧Φ n v w' ∧∀j,j≠n→N j w→N j w') (h :∀v,(∃w,Φ n v w)→walk P l R Φ N w0 E (n+1) r (updo σ d v)):walk P l R Φ N w0 E n (⟨⟨d,k,none⟩,true,ds⟩::r) σ:=by
 simp only [walk,gOk,if_true]
 exact ⟨hn,h⟩
set_option maxRecDepth 100000
section
variable {P:Program}
theorem kC {k:RK} {d:Option Nat} {r:List RI} {σ:Sl} {w:World} {v:Value} {Q:Sl→World→Prop} (hv:k.val? σ w=some v) (h:wpR P r (updo σ d v) w Q):wpR P (⟨d,k,none⟩::r) σ w Q:=by
 simp only [wpR,RI.wp,gOk,if_true]
 exact kA7 hv h
theorem qQ {l:List DI} {Φ:Nat→Value→World→Prop} {w0:World} {E:Sl→Prop} {n:Nat} {k:RK} {d:Option Nat} {ds:List Nat} {r:List DI} {σ:Sl} {v:Value} (hv:k.val? σ w0=some v)
 (h:j4 P l Φ w0 E (n+1) r (updo σ d v)):j4 P l Φ w0 E n (⟨⟨d,k,none⟩,false,ds⟩::r) σ:=by
 simp only [j4,gOk,if_true,hv,Bool.false_eq_true,if_false]
 exact h
theorem wL {l:List DI} {Φ:Nat→Value→World→Prop} {w0:World} {E:Sl→Prop} {n:Nat} {k:RK} {d:Option Nat} {ds:List Nat} {r:List DI} {σ:Sl}
 (hn :∀w,Mod [] w0 w→known l Φ ds σ w→k.run P σ w fun v w'=>Mod [] w w'∧Φ n v w') (h :∀v,(∃w,Φ n v w)→j4 P l Φ w0 E (n+1) r (updo σ d v)):j4 P l Φ w0 E n (⟨⟨d,k,none⟩,true,ds⟩::r) σ:=by
 simp only [j4,gOk,if_true]
 exact ⟨hn,h⟩
theorem kX {k:RK} {d:Option Nat} {r:List RI} {σ:Sl} {w:World} {Q:Sl→World→Prop} (h:k.run P σ w fun v w'=>wpR P r (updo σ d v) w' Q):wpR P (⟨d,k,none⟩::r) σ w Q:=by
 simp only [wpR,RI.wp,gOk,if_true];exact h
theorem xD {f:FuncId} {args:List Operand} {d:Option Nat} {r:List RI} {σ:Sl} {w:World} {Q:Sl→World→Prop} {R:Ending→World→Prop} {vs:List Value} (ha:args.map (ev σ)=vs) (hc:Calls P f vs.toArray w R)
 (hk :∀e w',R e w' →∃v,e=.returned v∧wpR P r (updo σ d v) w' Q):wpR P (⟨d,.call f args,none⟩::r) σ w Q:=by
 subst ha
 refine kX ?_
 exact hc.mono fun e w' he=>hk e w' he
theorem wpC_seq (a b:IC) (Q:Exit→Sl→World→Prop) (σ:Sl) (w:World):wpC P (.seq a b) Q σ w=wpC P a (kF (wpC P b Q) Q) σ w:=rfl
theorem wpC_skip (Q:Exit→Sl→World→Prop) (σ:Sl) (w:World):wpC P .skip Q σ w=Q .normal σ w:=rfl
theorem kD (l:List RI) (Q:Exit→Sl→World→Prop) (σ:Sl) (w:World):wpC P (.blk l) Q σ w=wpR P l σ w (Q .normal):=rfl
theorem wpC_block (id:Nat) (a:IC) (Q:Exit→Sl→World→Prop) (σ:Sl) (w:World):wpC P (.block id a) Q σ w=wpC P a (kR id Q) σ w:=rfl
theorem wpC_rnd (d1 d2:Nat) (Q:Exit→Sl→World→Prop) (σ:Sl) (w:World):wpC P (.rnd d1 d2) Q σ w =
 ∀(c:Bool) (T:TypeId),Q .normal (upd (upd σ d1 (.pointer (some ⟨w.heap.size,0,none⟩))) d2 (.bool c)) (w.drew.alloc (.cells [.bool c].toArray T)):=rfl
theorem wpC_loop (a:IC) (Q:Exit→Sl→World→Prop) (σ:Sl) (w:World):wpC P (.loop a) Q σ w =∃(I:Sl→World→Prop) (μ:Sl→World→Nat),I σ w ∧
 ∀σ w,I σ w→wpC P a (kF (fun σ' w'=>I σ' w'∧μ σ' w'<μ σ w) Q) σ w:=rfl
theorem kI {c:Operand} {a b:IC} {Q:Exit→Sl→World→Prop} {σ:Sl} {w:World} (h:ev σ c=.bool true):wpC P (.cond c a b) Q σ w=wpC P a Q σ w:=by simp only [wpC,h]
theorem kG {c:Operand} {a b:IC} {Q:Exit→Sl→World→Prop} {σ:Sl} {w:World} (h:ev σ c=.bool false):wpC P (.cond c a b) Q σ w=wpC P b Q σ w:=by simp only [wpC,h]
theorem vP {id:Nat} {N M:Sl→World→Prop} {Q:Exit→Sl→World→Prop} {σ:Sl} {w:World} (h:Q .normal σ w):wpC P (.exit id) (kF N (kF M (kR id Q))) σ w:=by
 simp only [wpC,kF,kR,if_true];exact h
theorem wE {id:Nat} {N M:Sl→World→Prop} {Q:Exit→Sl→World→Prop} {σ:Sl} {w:World} (h:Q .normal σ w):wpC P (.exit id) (kF N (kF M (kR id Q))) σ w:=by
 simp only [wpC,kF,kR,if_true];exact h
theorem kE {N:Sl→World→Prop} {Q:Exit→Sl→World→Prop} {σ:Sl} {w:World} (h:N σ w):wpR P [] σ w (kF N Q .normal):=h
theorem jO {k:RK} {d:Option Nat} {g:Nat×Bool} {r:List RI} {σ:Sl} {w:World} {v:Value} {Q:Sl→World→Prop} (hg:σ g.1=.bool g.2) (hv:k.val? σ w=some v) (h:wpR P r (updo σ d v) w Q):wpR P (⟨d,k,some g⟩::r) σ w Q:=by
 obtain ⟨a,b⟩:=g
 simp only at hg
 simp only [wpR,RI.wp,gOk,hg,beq_self_eq_true,if_true]
 exact kA7 hv h
end
end Go.Msk
namespace Go.Msk
abbrev gBig:Nat:=0
abbrev gErr:Nat:=1
abbrev kHN:Nat:=2
abbrev kHO:Nat:=3
abbrev j5:Nat:=4
abbrev kAD:Nat:=5
abbrev y8:Nat:=6
abbrev kDF:Nat:=7
abbrev kHP:Nat:=8
abbrev jT:Nat:=10
abbrev qB:Nat:=12
abbrev zF:Nat:=13
abbrev jP:Nat:=14
abbrev kAE:Nat:=15
abbrev qU:Nat:=16
abbrev jE:Nat:=17
abbrev qO:Nat:=18
abbrev zY:Nat:=19
abbrev qD:Nat:=20
abbrev qM:Nat:=21
abbrev kDG:Nat:=22
abbrev jQ:Nat:=23
abbrev jF:Nat:=24
abbrev qP:Nat:=25
abbrev xE:Nat:=26
abbrev zK:Nat:=27
abbrev jX:Nat:=28
abbrev rOk:Nat:=29
abbrev qC:Nat:=30
abbrev qH:Nat:=31
abbrev kJI:Nat:=32
abbrev kJJ:Nat:=33
abbrev kAF:Nat:=34
abbrev wF:Nat:=35
abbrev vQ:Nat:=36
abbrev wG:Nat:=37
abbrev kHQ:Nat:=38
abbrev kGD:Nat:=39
abbrev kEA:Nat:=41
abbrev xV:Nat:=42
abbrev kBM:Nat:=43
abbrev kB8:Nat:=44
abbrev wC:Nat:=45
abbrev kAG:Nat:=46
abbrev wH:Nat:=47
abbrev kHR:Nat:=48
abbrev kBN:Nat:=49
abbrev kEB:Nat:=52
abbrev u7:Nat:=53
abbrev uO:Nat:=54
abbrev xW:Nat:=55
abbrev zC:Nat:=56
abbrev jD:Nat:=57
abbrev xG:Nat:=58
abbrev tSet:Nat:=59
abbrev tLen:Nat:=60
abbrev kEC:Nat:=61
abbrev wW:Nat:=62
abbrev kED:Nat:=63
abbrev kHS:Nat:=64
abbrev kEE:Nat:=65
abbrev iAt:Nat:=66
abbrev kGE:Nat:=67
abbrev xH:Nat:=70
abbrev xI:Nat:=71
abbrev j6:Nat:=72
abbrev uP:Nat:=73
abbrev kB9:Nat:=74
abbrev lGot:Nat:=76
abbrev yR:Nat:=81
abbrev uQ:Nat:=82
abbrev sAt:Nat:=83
abbrev z8:Nat:=84
abbrev yU:Nat:=85
abbrev kBH:Nat:=86
abbrev yG:Nat:=87
abbrev kFD:Nat:=88
abbrev kHT:Nat:=89
abbrev uR:Nat:=90
abbrev vR:Nat:=91
abbrev yA:Nat:=92
abbrev kGF:Nat:=93
abbrev kHU:Nat:=94
abbrev vW:Nat:=95
abbrev kBO:Nat:=98
abbrev kFE:Nat:=99
abbrev kFF:Nat:=100
abbrev kHV:Nat:=101
abbrev sKept:Nat:=105
abbrev sHas:Nat:=106
abbrev kJK:Nat:=107
abbrev kCA:Nat:=108
abbrev kMZ:Nat:=109
abbrev uC:Nat:=113
abbrev kAH:Nat:=120
def ir_rInt16 (F:Nat→Nat):IC×List RV×Nat:=(.seq (.blk [⟨some 2,.mv (.const (.int .i16 0)),none⟩]) (.seq (.seq (.blk [⟨some 4,.mv (.tmp 0),none⟩,⟨some 5,.nilc (.tmp 4),none⟩,
 ⟨some 6,.fad (.tmp 5) 0,none⟩,⟨some 7,.ld (.tmp 6),none⟩,⟨some 8,.len (.tmp 7),none⟩,⟨some 9,.bin .lss (.tmp 8) (.const (.int .i64 2)),none⟩]) (.cond (.tmp 9)
 (.seq (.blk [⟨some 10,.mv (.tmp 0),none⟩,⟨some 11,.nilc (.tmp 10),none⟩,⟨some 12,.fad (.tmp 11) 1,none⟩,⟨none,.st (.tmp 12) 1 (.const (.bool true)),none⟩])
 (.seq (.blk [⟨some 13,.mv (.tmp 0),none⟩,⟨some 14,.nilc (.tmp 13),none⟩,⟨some 15,.fad (.tmp 14) 0,none⟩,⟨none,.st (.tmp 15) 1 (.const (.slice none 0 0)),none⟩])
 (.seq (.blk [⟨some 2,.mv (.const (.int .i16 0)),none⟩]) (.ret)))) (.skip))) (.seq (.drw [⟨⟨some 16,.ldn (.global (F gBig)) 0,none⟩,false,[]⟩,
 ⟨⟨some 17,.mv (.tmp 0),none⟩,false,[]⟩,⟨⟨some 18,.nilc (.tmp 17),none⟩,false,[]⟩,⟨⟨some 19,.fad (.tmp 18) 0,none⟩,false,[]⟩,⟨⟨some 20,.ld (.tmp 19),none⟩,false,[]⟩,
 ⟨⟨some 21,.call (F zC) [.tmp 16,.tmp 20],none⟩,true,[]⟩,⟨⟨some 22,.conv .i16 (.tmp 21),none⟩,false,[5]⟩,⟨⟨some 3,.mv (.tmp 22),none⟩,false,[5]⟩] [])
 (.seq (.blk [⟨some 23,.mv (.tmp 0),none⟩,⟨some 24,.mv (.tmp 0),none⟩,⟨some 25,.nilc (.tmp 24),none⟩,⟨some 26,.fad (.tmp 25) 0,none⟩,⟨some 27,.ld (.tmp 26),none⟩,
 ⟨some 28,.slice (.tmp 27) (some (.const (.int .i64 2))) none none 1,none⟩,⟨some 29,.nilc (.tmp 23),none⟩,⟨some 30,.fad (.tmp 29) 0,none⟩,⟨none,.st (.tmp 30) 1 (.tmp 28),none⟩])
 (.seq (.blk [⟨some 31,.mv (.tmp 3),none⟩,⟨some 2,.mv (.tmp 31),none⟩]) (.ret))))),[.tmp 2],32)
def ir_rSpan (_F:Nat→Nat):IC×List RV×Nat:=(.seq (.blk [⟨some 4,.mv (.const (.slice none 0 0)),none⟩]) (.seq (.seq (.blk [⟨some 6,.mv (.tmp 0),none⟩,⟨some 7,.nilc (.tmp 6),none⟩,
 ⟨some 8,.fad (.tmp 7) 0,none⟩,⟨some 9,.ld (.tmp 8),none⟩,⟨some 10,.len (.tmp 9),none⟩,⟨some 11,.mv (.tmp 1),none⟩,⟨some 12,.bin .lss (.tmp 10) (.tmp 11),none⟩,
 ⟨some 13,.mv (.tmp 12),none⟩,⟨some 14,.mv (.tmp 1),some (13,false)⟩,⟨some 15,.bin .lss (.tmp 14) (.const (.int .i64 0)),some (13,false)⟩,
 ⟨some 16,.pick (.tmp 13) (.const (.bool true)) (.tmp 15),none⟩]) (.cond (.tmp 16) (.seq (.blk [⟨some 17,.mv (.tmp 0),none⟩,⟨some 18,.nilc (.tmp 17),none⟩,
 ⟨some 19,.fad (.tmp 18) 1,none⟩,⟨none,.st (.tmp 19) 1 (.const (.bool true)),none⟩]) (.seq (.blk [⟨some 20,.mv (.tmp 0),none⟩,⟨some 21,.nilc (.tmp 20),none⟩,
 ⟨some 22,.fad (.tmp 21) 0,none⟩,⟨none,.st (.tmp 22) 1 (.const (.slice none 0 0)),none⟩]) (.seq (.blk [⟨some 4,.mv (.const (.slice none 0 0)),none⟩]) (.ret)))) (.skip)))
 (.seq (.blk [⟨some 23,.mv (.tmp 0),none⟩,⟨some 24,.nilc (.tmp 23),none⟩,⟨some 25,.fad (.tmp 24) 0,none⟩,⟨some 26,.ld (.tmp 25),none⟩,⟨some 27,.mv (.tmp 1),none⟩,
 ⟨some 28,.mv (.tmp 1),none⟩,⟨some 29,.slice (.tmp 26) none (some (.tmp 27)) (some (.tmp 28)) 1,none⟩,⟨some 5,.mv (.tmp 29),none⟩]) (.seq (.blk [⟨some 30,.mv (.tmp 0),none⟩,
 ⟨some 31,.mv (.tmp 0),none⟩,⟨some 32,.nilc (.tmp 31),none⟩,⟨some 33,.fad (.tmp 32) 0,none⟩,⟨some 34,.ld (.tmp 33),none⟩,⟨some 35,.mv (.tmp 1),none⟩,
 ⟨some 36,.slice (.tmp 34) (some (.tmp 35)) none none 1,none⟩,⟨some 37,.nilc (.tmp 30),none⟩,⟨some 38,.fad (.tmp 37) 0,none⟩,⟨none,.st (.tmp 38) 1 (.tmp 36),none⟩])
 (.seq (.blk [⟨some 39,.mv (.tmp 5),none⟩,⟨some 4,.mv (.tmp 39),none⟩]) (.ret))))),[.tmp 4],40)
def ir_beUint16 (_F:Nat→Nat):IC×List RV×Nat:=(.seq (.blk [⟨some 2,.box (.tmp 0),none⟩,⟨some 4,.mv (.const (.int .u16 0)),none⟩]) (.seq (.blk [⟨some 5,.mv (.tmp 1),none⟩,
 ⟨some 6,.iad (.tmp 5) (.const (.int .i64 1)) 1,none⟩,⟨some 7,.ld (.tmp 6),none⟩]) (.seq (.drw [⟨⟨some 8,.mv (.tmp 1),none⟩,false,[]⟩,
 ⟨⟨some 9,.iad (.tmp 8) (.const (.int .i64 1)) 1,none⟩,false,[]⟩,⟨⟨some 10,.ld (.tmp 9),none⟩,false,[]⟩,⟨⟨some 11,.conv .u16 (.tmp 10),none⟩,false,[]⟩,
 ⟨⟨some 12,.mv (.tmp 1),none⟩,false,[]⟩,⟨⟨some 13,.iad (.tmp 12) (.const (.int .i64 0)) 1,none⟩,false,[]⟩,⟨⟨some 14,.ld (.tmp 13),none⟩,false,[]⟩,
 ⟨⟨some 15,.conv .u16 (.tmp 14),none⟩,false,[]⟩,⟨⟨some 16,.bin .shl (.tmp 15) (.const (.int .u64 8)),none⟩,false,[]⟩,⟨⟨some 17,.bin .or (.tmp 11) (.tmp 16),none⟩,false,[]⟩,
 ⟨⟨some 4,.mv (.tmp 17),none⟩,false,[]⟩] []) (.ret))),[.tmp 4],18)
def ir_rInt32 (F:Nat→Nat):IC×List RV×Nat:=(.seq (.blk [⟨some 2,.mv (.const (.int .i32 0)),none⟩]) (.seq (.seq (.blk [⟨some 4,.mv (.tmp 0),none⟩,⟨some 5,.nilc (.tmp 4),none⟩,
 ⟨some 6,.fad (.tmp 5) 0,none⟩,⟨some 7,.ld (.tmp 6),none⟩,⟨some 8,.len (.tmp 7),none⟩,⟨some 9,.bin .lss (.tmp 8) (.const (.int .i64 4)),none⟩]) (.cond (.tmp 9)
 (.seq (.blk [⟨some 10,.mv (.tmp 0),none⟩,⟨some 11,.nilc (.tmp 10),none⟩,⟨some 12,.fad (.tmp 11) 1,none⟩,⟨none,.st (.tmp 12) 1 (.const (.bool true)),none⟩])
 (.seq (.blk [⟨some 13,.mv (.tmp 0),none⟩,⟨some 14,.nilc (.tmp 13),none⟩,⟨some 15,.fad (.tmp 14) 0,none⟩,⟨none,.st (.tmp 15) 1 (.const (.slice none 0 0)),none⟩])
 (.seq (.blk [⟨some 2,.mv (.const (.int .i32 0)),none⟩]) (.ret)))) (.skip))) (.seq (.drw [⟨⟨some 16,.ldn (.global (F gBig)) 0,none⟩,false,[]⟩,
 ⟨⟨some 17,.mv (.tmp 0),none⟩,false,[]⟩,⟨⟨some 18,.nilc (.tmp 17),none⟩,false,[]⟩,⟨⟨some 19,.fad (.tmp 18) 0,none⟩,false,[]⟩,⟨⟨some 20,.ld (.tmp 19),none⟩,false,[]⟩,
 ⟨⟨some 21,.call (F jD) [.tmp 16,.tmp 20],none⟩,true,[]⟩,⟨⟨some 22,.conv .i32 (.tmp 21),none⟩,false,[5]⟩,⟨⟨some 3,.mv (.tmp 22),none⟩,false,[5]⟩] [])
 (.seq (.blk [⟨some 23,.mv (.tmp 0),none⟩,⟨some 24,.mv (.tmp 0),none⟩,⟨some 25,.nilc (.tmp 24),none⟩,⟨some 26,.fad (.tmp 25) 0,none⟩,⟨some 27,.ld (.tmp 26),none⟩,
 ⟨some 28,.slice (.tmp 27) (some (.const (.int .i64 4))) none none 1,none⟩,⟨some 29,.nilc (.tmp 23),none⟩,⟨some 30,.fad (.tmp 29) 0,none⟩,⟨none,.st (.tmp 30) 1 (.tmp 28),none⟩])
 (.seq (.blk [⟨some 31,.mv (.tmp 3),none⟩,⟨some 2,.mv (.tmp 31),none⟩]) (.ret))))),[.tmp 2],32)
def ir_beUint32 (_F:Nat→Nat):IC×List RV×Nat:=(.seq (.blk [⟨some 2,.box (.tmp 0),none⟩,⟨some 4,.mv (.const (.int .u32 0)),none⟩]) (.seq (.blk [⟨some 5,.mv (.tmp 1),none⟩,
 ⟨some 6,.iad (.tmp 5) (.const (.int .i64 3)) 1,none⟩,⟨some 7,.ld (.tmp 6),none⟩]) (.seq (.drw [⟨⟨some 8,.mv (.tmp 1),none⟩,false,[]⟩,
 ⟨⟨some 9,.iad (.tmp 8) (.const (.int .i64 3)) 1,none⟩,false,[]⟩,⟨⟨some 10,.ld (.tmp 9),none⟩,false,[]⟩,⟨⟨some 11,.conv .u32 (.tmp 10),none⟩,false,[]⟩,
 ⟨⟨some 12,.mv (.tmp 1),none⟩,false,[]⟩,⟨⟨some 13,.iad (.tmp 12) (.const (.int .i64 2)) 1,none⟩,false,[]⟩,⟨⟨some 14,.ld (.tmp 13),none⟩,false,[]⟩,
 ⟨⟨some 15,.conv .u32 (.tmp 14),none⟩,false,[]⟩,⟨⟨some 16,.bin .shl (.tmp 15) (.const (.int .u64 8)),none⟩,false,[]⟩,⟨⟨some 17,.bin .or (.tmp 11) (.tmp 16),none⟩,false,[]⟩,
 ⟨⟨some 18,.mv (.tmp 1),none⟩,false,[]⟩,⟨⟨some 19,.iad (.tmp 18) (.const (.int .i64 1)) 1,none⟩,false,[]⟩,⟨⟨some 20,.ld (.tmp 19),none⟩,false,[]⟩,
 ⟨⟨some 21,.conv .u32 (.tmp 20),none⟩,false,[]⟩,⟨⟨some 22,.bin .shl (.tmp 21) (.const (.int .u64 16)),none⟩,false,[]⟩,⟨⟨some 23,.bin .or (.tmp 17) (.tmp 22),none⟩,false,[]⟩,
 ⟨⟨some 24,.mv (.tmp 1),none⟩,false,[]⟩,⟨⟨some 25,.iad (.tmp 24) (.const (.int .i64 0)) 1,none⟩,false,[]⟩,⟨⟨some 26,.ld (.tmp 25),none⟩,false,[]⟩,
 ⟨⟨some 27,.conv .u32 (.tmp 26),none⟩,false,[]⟩,⟨⟨some 28,.bin .shl (.tmp 27) (.const (.int .u64 24)),none⟩,false,[]⟩,⟨⟨some 29,.bin .or (.tmp 23) (.tmp 28),none⟩,false,[]⟩,
 ⟨⟨some 4,.mv (.tmp 29),none⟩,false,[]⟩] []) (.ret))),[.tmp 4],30)
def ir_rString (F:Nat→Nat):IC×List RV×Nat:=(.seq (.blk [⟨some 2,.mv (.const (.string .empty)),none⟩]) (.seq (.blk [⟨some 4,.mv (.tmp 0),none⟩,⟨some 5,.call (F j5) [.tmp 4],none⟩,
 ⟨some 3,.mv (.tmp 5),none⟩]) (.seq (.blk [⟨some 6,.mv (.tmp 0),none⟩,⟨some 7,.mv (.tmp 3),none⟩,⟨some 8,.conv .i64 (.tmp 7),none⟩,⟨some 9,.call (F zF) [.tmp 6,.tmp 8],none⟩,
 ⟨some 10,.b2s (.tmp 9),none⟩,⟨some 2,.mv (.tmp 10),none⟩]) (.ret))),[.tmp 2],11)
def ir_rUnsafeString (F:Nat→Nat):IC×List RV×Nat:=(.seq (.blk [⟨some 2,.mv (.const (.string .empty)),none⟩]) (.seq (.blk [⟨some 4,.mv (.tmp 0),none⟩,
 ⟨some 5,.call (F j5) [.tmp 4],none⟩,⟨some 3,.mv (.tmp 5),none⟩]) (.seq (.blk [⟨some 6,.mv (.tmp 0),none⟩,⟨some 7,.mv (.tmp 3),none⟩,⟨some 8,.conv .i64 (.tmp 7),none⟩,
 ⟨some 9,.call (F zF) [.tmp 6,.tmp 8],none⟩,⟨some 10,.call (F qC) [.tmp 9],none⟩,⟨some 2,.mv (.tmp 10),none⟩]) (.ret))),[.tmp 2],11)
def ir_kUnsafeString (_F:Nat→Nat):IC×List RV×Nat:=(.seq (.blk [⟨some 2,.mv (.const (.string .empty)),none⟩]) (.seq (.blk [⟨some 3,.mv (.tmp 0),none⟩,⟨some 4,.b2s (.tmp 3),none⟩,
 ⟨some 2,.mv (.tmp 4),none⟩]) (.ret)),[.tmp 2],5)
def ir_rArrayLen (F:Nat→Nat):IC×List RV×Nat:=(.seq (.blk [⟨some 2,.mv (.const (.int .i32 0)),none⟩]) (.seq (.blk [⟨some 4,.mv (.tmp 0),none⟩,⟨some 5,.call (F y8) [.tmp 4],none⟩,
 ⟨some 3,.mv (.tmp 5),none⟩]) (.seq (.seq (.blk [⟨some 6,.mv (.tmp 0),none⟩,⟨some 7,.nilc (.tmp 6),none⟩,⟨some 8,.fad (.tmp 7) 0,none⟩,⟨some 9,.ld (.tmp 8),none⟩,
 ⟨some 10,.len (.tmp 9),none⟩,⟨some 11,.mv (.tmp 3),none⟩,⟨some 12,.conv .i64 (.tmp 11),none⟩,⟨some 13,.bin .lss (.tmp 10) (.tmp 12),none⟩]) (.cond (.tmp 13)
 (.seq (.blk [⟨some 14,.mv (.tmp 0),none⟩,⟨some 15,.nilc (.tmp 14),none⟩,⟨some 16,.fad (.tmp 15) 1,none⟩,⟨none,.st (.tmp 16) 1 (.const (.bool true)),none⟩])
 (.seq (.blk [⟨some 17,.mv (.tmp 0),none⟩,⟨some 18,.nilc (.tmp 17),none⟩,⟨some 19,.fad (.tmp 18) 0,none⟩,⟨none,.st (.tmp 19) 1 (.const (.slice none 0 0)),none⟩])
 (.seq (.blk [⟨some 2,.mv (.const (.int .i32 0)),none⟩]) (.ret)))) (.skip))) (.seq (.blk [⟨some 20,.mv (.tmp 3),none⟩,⟨some 2,.mv (.tmp 20),none⟩]) (.ret)))),[.tmp 2],21)
def ir_rOk (_F:Nat→Nat):IC×List RV×Nat:=(.seq (.blk [⟨some 2,.mv (.const (.bool false)),none⟩]) (.seq (.blk [⟨some 3,.mv (.tmp 0),none⟩,⟨some 4,.nilc (.tmp 3),none⟩,
 ⟨some 5,.fad (.tmp 4) 1,none⟩,⟨some 6,.ld (.tmp 5),none⟩,⟨some 7,.lnot (.tmp 6),none⟩,⟨some 2,.mv (.tmp 7),none⟩]) (.ret)),[.tmp 2],8)
def ir_rComplete (F:Nat→Nat):IC×List RV×Nat:=(.seq (.blk [⟨some 2,.mv (.const (.nilIface)),none⟩]) (.seq (.seq (.blk [⟨some 3,.mv (.tmp 0),none⟩,⟨some 4,.nilc (.tmp 3),none⟩,
 ⟨some 5,.fad (.tmp 4) 1,none⟩,⟨some 6,.ld (.tmp 5),none⟩]) (.cond (.tmp 6) (.seq (.blk [⟨some 7,.ld (.global (F gErr)),none⟩,⟨some 2,.mv (.tmp 7),none⟩]) (.ret)) (.skip)))
 (.seq (.blk [⟨some 2,.mv (.const (.nilIface)),none⟩]) (.ret))),[.tmp 2],8)
def ir_rNullableBytes (F:Nat→Nat):IC×List RV×Nat:=(.seq (.blk [⟨some 2,.mv (.const (.slice none 0 0)),none⟩]) (.seq (.blk [⟨some 5,.mv (.tmp 0),none⟩,
 ⟨some 6,.call (F y8) [.tmp 5],none⟩,⟨some 3,.mv (.tmp 6),none⟩]) (.seq (.seq (.blk [⟨some 7,.mv (.tmp 3),none⟩,⟨some 8,.bin .lss (.tmp 7) (.const (.int .i32 0)),none⟩])
 (.cond (.tmp 8) (.seq (.blk [⟨some 2,.mv (.const (.slice none 0 0)),none⟩]) (.ret)) (.skip))) (.seq (.blk [⟨some 9,.mv (.tmp 0),none⟩,⟨some 10,.mv (.tmp 3),none⟩,
 ⟨some 11,.conv .i64 (.tmp 10),none⟩,⟨some 12,.call (F zF) [.tmp 9,.tmp 11],none⟩,⟨some 4,.mv (.tmp 12),none⟩]) (.seq (.blk [⟨some 13,.mv (.tmp 4),none⟩,
 ⟨some 2,.mv (.tmp 13),none⟩]) (.ret))))),[.tmp 2],14)
def ir_rNullableString (F:Nat→Nat):IC×List RV×Nat:=(.seq (.blk [⟨some 2,.mv (.const (.pointer none)),none⟩]) (.seq (.blk [⟨some 5,.mv (.tmp 0),none⟩,
 ⟨some 6,.call (F j5) [.tmp 5],none⟩,⟨some 3,.mv (.tmp 6),none⟩]) (.seq (.seq (.blk [⟨some 7,.mv (.tmp 3),none⟩,⟨some 8,.bin .lss (.tmp 7) (.const (.int .i16 0)),none⟩])
 (.cond (.tmp 8) (.seq (.blk [⟨some 2,.mv (.const (.pointer none)),none⟩]) (.ret)) (.skip))) (.seq (.blk [⟨some 9,.mv (.tmp 0),none⟩,⟨some 10,.mv (.tmp 3),none⟩,
 ⟨some 11,.conv .i64 (.tmp 10),none⟩,⟨some 12,.call (F zF) [.tmp 9,.tmp 11],none⟩,⟨some 13,.b2s (.tmp 12),none⟩,⟨some 4,.alloc [.string .empty],none⟩,
 ⟨none,.st (.tmp 4) 1 (.tmp 13),none⟩]) (.seq (.blk [⟨some 2,.mv (.tmp 4),none⟩]) (.ret))))),[.tmp 2],14)
def ir_rUnsafeNullableString (F:Nat→Nat):IC×List RV×Nat:=(.seq (.blk [⟨some 2,.mv (.const (.pointer none)),none⟩]) (.seq (.blk [⟨some 5,.mv (.tmp 0),none⟩,
 ⟨some 6,.call (F j5) [.tmp 5],none⟩,⟨some 3,.mv (.tmp 6),none⟩]) (.seq (.seq (.blk [⟨some 7,.mv (.tmp 3),none⟩,⟨some 8,.bin .lss (.tmp 7) (.const (.int .i16 0)),none⟩])
 (.cond (.tmp 8) (.seq (.blk [⟨some 2,.mv (.const (.pointer none)),none⟩]) (.ret)) (.skip))) (.seq (.blk [⟨some 9,.mv (.tmp 0),none⟩,⟨some 10,.mv (.tmp 3),none⟩,
 ⟨some 11,.conv .i64 (.tmp 10),none⟩,⟨some 12,.call (F zF) [.tmp 9,.tmp 11],none⟩,⟨some 13,.call (F qC) [.tmp 12],none⟩,⟨some 4,.alloc [.string .empty],none⟩,
 ⟨none,.st (.tmp 4) 1 (.tmp 13),none⟩]) (.seq (.blk [⟨some 2,.mv (.tmp 4),none⟩]) (.ret))))),[.tmp 2],14)
end Go.Msk
namespace Go.Msk
theorem kKQ (a b i:Nat) (h:b<2^i):b|||(a*2^i)=a*2^i+b:=by
 rw [Nat.or_comm,←Nat.shiftLeft_eq,Nat.shiftLeft_add_eq_or_of_lt h]
theorem kO4 (n x y:Nat) (hx:x<2^n) (hy:y<2^n):(BitVec.ofInt n (x:Int)|||BitVec.ofInt n (y:Int)).toNat=x|||y:=by
 rw [BitVec.toNat_or]
 simp only [BitVec.ofInt_natCast,BitVec.toNat_ofNat]
 rw [Nat.mod_eq_of_lt hx,Nat.mod_eq_of_lt hy]
def wX:IntKind→Bool
 | .u8|.u16|.u32|.u64=>true
 | _=>false
theorem kGG (k:IntKind) (hk:wX k=true) (n:Nat) (h:n<2^k.bits):k.wrap (n:Int)=n:=by
 cases k<;>simp [wX] at hk<;>simp only [IntKind.bits] at h<;>simp [IntKind.wrap,IntKind.bits,IntKind.signed]<;>omega
theorem kKR {k:IntKind} (hk:wX k=true) {x y:Nat} (hx:x<2^k.bits) (hy:y<2^k.bits) :
 kM .or k (x:Int) (y:Int)=some (.int k ((x|||y:Nat):Int)):=by
 simp only [kM]
 rw [kO4 _ _ _ hx hy,kGG k hk _ (Nat.or_lt_two_pow hx hy)]
theorem kJL {k:IntKind} (hk:wX k=true) {x s:Nat} (hs:s≤k.bits) (hx:x*2^s<2^k.bits) :
 kM .shl k (x:Int) (s:Int)=some (.int k ((x*2^s:Nat):Int)):=by
 simp only [kM]
 rw [if_neg (by omega)]
 have:min (s:Int).toNat k.bits=s:=by simp only [Int.toNat_natCast];omega
 rw [this]
 have e:((x:Int)*2^s)=((x*2^s:Nat):Int):=by rw [Int.natCast_mul,Int.natCast_pow];rfl
 rw [e,kGG k hk _ hx]
theorem jH (b:UInt8):b.toNat<256:=b.toNat_lt
def beNat (l:List UInt8):Nat:=l.foldl (fun n b=>n*256+b.toNat) 0
theorem kO5 (l:List UInt8) :∀n:Nat,l.foldl (fun n b=>n*256+b.toNat) n=n*256^l.length+beNat l:=by
 induction l with
 | nil=>intro n;simp [beNat]
 | cons b l ih =>
 intro n
 simp only [beNat,List.foldl_cons,List.length_cons]
 rw [ih,ih]
 simp only [Nat.zero_mul,Nat.zero_add,Nat.pow_succ,Nat.add_mul,Nat.mul_assoc]
 rw [Nat.mul_comm 256];omega
theorem kLQ (b:UInt8) (l:List UInt8):beNat (b::l)=b.toNat*256^l.length+beNat l:=by
 simp only [beNat,List.foldl_cons]
 rw [kO5];simp [beNat]
@[simp] theorem intBin_lss (k:IntKind) (x y:Int):kM .lss k x y=some (.bool (decide (x<y))):=rfl
@[simp] theorem intBin_leq (k:IntKind) (x y:Int):kM .leq k x y=some (.bool (decide (x≤y))):=rfl
@[simp] theorem intBin_gtr (k:IntKind) (x y:Int):kM .gtr k x y=some (.bool (decide (x>y))):=rfl
@[simp] theorem intBin_geq (k:IntKind) (x y:Int):kM .geq k x y=some (.bool (decide (x≥y))):=rfl
@[simp] theorem intBin_eql (k:IntKind) (x y:Int):kM .eql k x y=some (.bool (x==y)):=rfl
@[simp] theorem intBin_neq (k:IntKind) (x y:Int):kM .neq k x y=some (.bool (x != y)):=rfl
@[simp] theorem intBin_add (k:IntKind) (x y:Int):kM .add k x y=some (.int k (k.wrap (x+y))):=rfl
@[simp] theorem intBin_sub (k:IntKind) (x y:Int):kM .sub k x y=some (.int k (k.wrap (x-y))):=rfl
theorem kCB (k:IntKind):k.wrap 0=0:=by cases k<;>rfl
theorem kGH {k:IntKind} (hk:wX k=true) {n m i c:Nat} (hc:c=2^i) (hn:n<c) (hm:m*c+n<2^k.bits) :
 kM .or k (n:Int) ((m:Int)*(c:Int))=some (.int k ((m*c+n:Nat):Int)):=by
 rw [←Int.natCast_mul]
 have h1:n<2^k.bits:=by omega
 have h2:m*c<2^k.bits:=by omega
 rw [kKR hk h1 h2]
 subst hc
 rw [kKQ _ _ _ hn]
theorem kFG (k:IntKind) (hk:wX k=true) (h8:8≤k.bits) (b:UInt8):k.wrap (b.toNat:Int)=b.toNat:=by
 refine kGG k hk _ ?_
 have:=jH b
 have:2^8≤2^k.bits:=Nat.pow_le_pow_right (by omega) h8
 omega
theorem kCC {k:IntKind} (hk:wX k=true) (b:UInt8) {s c:Nat} (hc:c=2^s) (hs:s+8≤k.bits) :
 kM .shl k (b.toNat:Int) (s:Int)=some (.int k ((b.toNat:Int)*(c:Int))):=by
 subst hc
 rw [kJL hk (by omega) (by
 have:=jH b
 have h1:b.toNat*2^s<256*2^s:=Nat.mul_lt_mul_of_pos_right this (Nat.pow_pos (by omega))
 have h2:256*2^s=2^(s+8):=by rw [Nat.pow_add,Nat.mul_comm]
 have h3:2^(s+8)≤2^k.bits:=Nat.pow_le_pow_right (by omega) hs
 omega)]
 rw [Int.natCast_mul]
set_option maxRecDepth 100000
def rdN (k:Nat) (s:RS):Nat×RS :=
 if k≤s.src.length then (beNat (s.src.take k),{s with src:=s.src.drop k}) else (0,RS.fail)
section
variable {P:Program} {F:Nat→Nat} {w:World}
attribute [local simp] bnd wpC wpR RI.wp gOk RK.run kF kR updo upd ev qE postC rvals RV.val zR kL
theorem kCD (hm:P.follows .mixedOrders=true) (h:kH P (F zC)=some (ir_beUint16 F)) {a:Addr} {len cap:Nat} {l:List UInt8}
  (hb:qW w (some a) len cap l) (h2:2≤l.length) :
  Calls P (F zC) [.agg #[],.slice (some a) len cap].toArray w fun e w'=>e=.returned (.int .u16 (beNat (l.take 2):Nat))∧Mod [] w w':=by
 obtain ⟨b0,b1,r,rfl⟩ :∃b0 b1 r,l=b0::b1::r:=by
  match l,h2 with
  | b0::b1::r,_=>exact ⟨b0,b1,r,rfl⟩
 refine kT h hm (by simp) ?_
 have hl:1<len:=hb.lt (i:=1) rfl
 have hl0:0<len:=by omega
 simp []
 intro T
 refine ⟨by omega,?_⟩
 have hb':=hb.mod (S:=[]) (Mod.alloc [] w (Obj.cells (Value.agg #[]).cells T)) (by simp)
 rw [hb'.get (i:=1) rfl]
 refine xC rfl ?_
 have g0:(w.alloc (Obj.cells (Value.agg #[]).cells T)).drew.cell? (a.add 0)=some (.int .u8 b0.toNat):=hb'.get rfl
 have g1:(w.alloc (Obj.cells (Value.agg #[]).cells T)).drew.cell? (a.add 1)=some (.int .u8 b1.toNat):=hb'.get rfl
 have e3:=kGH (k:=.u16) rfl (n:=b1.toNat) (m:=b0.toNat) (i:=8) (c:=256) rfl (jH b1) (by have:=jH b0;have:=jH b1;simp only [IntKind.bits];omega)
 have e2:=kCC (k:=.u16) rfl b0 (s:=8) (c:=256) rfl (by simp [IntKind.bits])
 have ew :∀b:UInt8,IntKind.u16.wrap (b.toNat:Int)=b.toNat:=kFG .u16 rfl (by simp [IntKind.bits])
 rw [show ((256:Nat):Int)=256 from rfl] at e2 e3
 rw [show ((8:Nat):Int)=8 from rfl] at e2
 simp [hl0,g0,g1,ew,e2,e3]
 refine ⟨by omega,by simp [beNat],(Mod.alloc _ _ _).trans (Mod.drew _ _)⟩
theorem kGI (hm:P.follows .mixedOrders=true) (h:kH P (F jD)=some (ir_beUint32 F)) {a:Addr} {len cap:Nat} {l:List UInt8}
  (hb:qW w (some a) len cap l) (h2:4≤l.length) :
  Calls P (F jD) [.agg #[],.slice (some a) len cap].toArray w fun e w'=>e=.returned (.int .u32 (beNat (l.take 4):Nat))∧Mod [] w w':=by
 obtain ⟨b0,b1,b2,b3,r,rfl⟩ :∃b0 b1 b2 b3 r,l=b0::b1::b2::b3::r:=by
  match l,h2 with
  | b0::b1::b2::b3::r,_=>exact ⟨b0,b1,b2,b3,r,rfl⟩
 refine kT h hm (by simp) ?_
 have hl3:3<len:=hb.lt (i:=3) rfl
 have hl2:2<len:=by omega
 have hl1:1<len:=by omega
 have hl0:0<len:=by omega
 simp []
 intro T
 refine ⟨by omega,?_⟩
 have hb':=hb.mod (S:=[]) (Mod.alloc [] w (Obj.cells (Value.agg #[]).cells T)) (by simp)
 rw [hb'.get (i:=3) rfl]
 refine xC rfl ?_
 have g0:(w.alloc (Obj.cells (Value.agg #[]).cells T)).drew.cell? (a.add 0)=some (.int .u8 b0.toNat):=hb'.get rfl
 have g1:(w.alloc (Obj.cells (Value.agg #[]).cells T)).drew.cell? (a.add 1)=some (.int .u8 b1.toNat):=hb'.get rfl
 have g2:(w.alloc (Obj.cells (Value.agg #[]).cells T)).drew.cell? (a.add 2)=some (.int .u8 b2.toNat):=hb'.get rfl
 have g3:(w.alloc (Obj.cells (Value.agg #[]).cells T)).drew.cell? (a.add 3)=some (.int .u8 b3.toNat):=hb'.get rfl
 have c0:=jH b0
 have c1:=jH b1
 have c2:=jH b2
 have c3:=jH b3
 have e1:=kGH (k:=.u32) rfl (n:=b3.toNat) (m:=b2.toNat) (i:=8) (c:=256) rfl c3 (by simp only [IntKind.bits];omega)
 have e2:=kGH (k:=.u32) rfl (n:=b2.toNat*256+b3.toNat) (m:=b1.toNat) (i:=16) (c:=65536) rfl (by omega) (by simp only [IntKind.bits];omega)
 have e3:=kGH (k:=.u32) rfl (n:=b1.toNat*65536+(b2.toNat*256+b3.toNat)) (m:=b0.toNat) (i:=24) (c:=16777216) rfl (by omega) (by simp only [IntKind.bits];omega)
 have f2:=kCC (k:=.u32) rfl b2 (s:=8) (c:=256) rfl (by simp [IntKind.bits])
 have f1:=kCC (k:=.u32) rfl b1 (s:=16) (c:=65536) rfl (by simp [IntKind.bits])
 have f0:=kCC (k:=.u32) rfl b0 (s:=24) (c:=16777216) rfl (by simp [IntKind.bits])
 have ew :∀b:UInt8,IntKind.u32.wrap (b.toNat:Int)=b.toNat:=kFG .u32 rfl (by simp [IntKind.bits])
 simp only [Int.natCast_add,Int.natCast_mul,Int.cast_ofNat_Int] at e1 e2 e3 f0 f1 f2
 simp [hl0,g0,g1,g2,g3,ew,f0,f1,f2,e1,e2,e3]
 refine ⟨by omega,by omega,by omega,?_,(Mod.alloc _ _ _).trans (Mod.drew _ _)⟩
 simp [beNat];omega
def RdC (P:Program) (f:FuncId) (val:RS→Value×RS):Prop :=
 ∀(S:List Nat) (w:World) (rb:Nat) (s:RS),IsRd S w rb s→rb ∉ S →
 Calls P f [.pointer (some ⟨rb,0,none⟩)].toArray w fun e w'=>e=.returned (val s).1∧IsRd S w' rb (val s).2∧Mod [rb] w w'
theorem wY (hm:P.follows .mixedOrders=true) (h:kH P (F j5)=some (ir_rInt16 F)) (hbe:kH P (F zC)=some (ir_beUint16 F)) :
  RdC P (F j5) fun s=>(.int .i16 (IntKind.i16.wrap (rdN 2 s).1),(rdN 2 s).2):=by
 intro S w rb s hr hS
 obtain ⟨base,len,cap,h1,h2,h3,h4⟩:=hr.ex
 refine kT h hm (by simp) ?_
 have hlen:=h2.hlen
 have c0:w.cell? ⟨rb,0,none⟩=some (.slice base len cap):=h1.cell 0
 by_cases hlt:len<2
 ·have hlt':(len:Int)<2:=by omega
  obtain ⟨f1,f2,f3,f4⟩:=vV (S:=S) h1
  have hv:rdN 2 s=(0,RS.fail):=by unfold rdN;rw [if_neg (by omega)]
  simp [Addr.kK,c0,hlt',Value.cells,f1,f2,f3,f4,hv]
  simp [kCB]
 ·have hlt' :¬(len:Int)<2:=by omega
  have hv:rdN 2 s=(beNat (s.src.take 2),{s with src:=s.src.drop 2}):=by unfold rdN;rw [if_pos (by omega)]
  simp [Addr.kK,c0,hlt']
  obtain ⟨a,rfl⟩ :∃a,base=some a:=by
   cases base with
   | some a=>exact ⟨a,rfl⟩
   | none=>have:=h2.hnone rfl;have:=h2.hcap;omega
  refine kGC (.int .u16 (beNat (s.src.take 2):Nat)) ?_
  have c0':w.drew.cell? ⟨rb,0,none⟩=some (.slice (some a) len cap):=c0
  simp [j4,RK.val?,Addr.kK,c0',kV]
  refine ⟨fun w1 hw=>?_,fun w1 hw=>?_⟩
  ·have hw':Mod [] w w1:=(Mod.drew _ _).trans hw
   exact (kCD (w:=w1) hm hbe (h2.mod hw' (by simp)) (by omega)).mono fun e w' h=>h
  ·have hw':Mod [] w w1:=(Mod.drew _ _).trans hw
   have c1:w1.cell? ⟨rb,0,none⟩=some (.slice (some a) len cap):=(h1.mod hw' (by simp)).cell 0
   obtain ⟨g1,g2,g3⟩:=kDE (S:=S) (h1.mod hw' (by simp)) (h2.mod hw' (by simp)) h3 (fun a h=>⟨(h4 a h).1,(h4 a h).2.1,Nat.lt_of_lt_of_le (h4 a h).2.2 hw'.size⟩) hr.short (k:=2) (by omega)
   have hcap:=h2.hcap
   simp [c1,Value.cells,hv]
   simp at g1 g2 g3
   exact ⟨by omega,by omega,g1,g2,hw'.nil.trans g3⟩
theorem uS (hm:P.follows .mixedOrders=true) (h:kH P (F y8)=some (ir_rInt32 F)) (hbe:kH P (F jD)=some (ir_beUint32 F)) :
  RdC P (F y8) fun s=>(.int .i32 (IntKind.i32.wrap (rdN 4 s).1),(rdN 4 s).2):=by
 intro S w rb s hr hS
 obtain ⟨base,len,cap,h1,h2,h3,h4⟩:=hr.ex
 refine kT h hm (by simp) ?_
 have hlen:=h2.hlen
 have c0:w.cell? ⟨rb,0,none⟩=some (.slice base len cap):=h1.cell 0
 by_cases hlt:len<4
 ·have hlt':(len:Int)<4:=by omega
  obtain ⟨f1,f2,f3,f4⟩:=vV (S:=S) h1
  have hv:rdN 4 s=(0,RS.fail):=by unfold rdN;rw [if_neg (by omega)]
  simp [Addr.kK,c0,hlt',Value.cells,f1,f2,f3,f4,hv]
  simp [kCB]
 ·have hlt' :¬(len:Int)<4:=by omega
  have hv:rdN 4 s=(beNat (s.src.take 4),{s with src:=s.src.drop 4}):=by unfold rdN;rw [if_pos (by omega)]
  simp [Addr.kK,c0,hlt']
  obtain ⟨a,rfl⟩ :∃a,base=some a:=by
   cases base with
   | some a=>exact ⟨a,rfl⟩
   | none=>have:=h2.hnone rfl;have:=h2.hcap;omega
  refine kGC (.int .u32 (beNat (s.src.take 4):Nat)) ?_
  have c0':w.drew.cell? ⟨rb,0,none⟩=some (.slice (some a) len cap):=c0
  simp [j4,RK.val?,Addr.kK,c0',kV]
  refine ⟨fun w1 hw=>?_,fun w1 hw=>?_⟩
  ·have hw':Mod [] w w1:=(Mod.drew _ _).trans hw
   exact (kGI (w:=w1) hm hbe (h2.mod hw' (by simp)) (by omega)).mono fun e w' h=>h
  ·have hw':Mod [] w w1:=(Mod.drew _ _).trans hw
   have c1:w1.cell? ⟨rb,0,none⟩=some (.slice (some a) len cap):=(h1.mod hw' (by simp)).cell 0
   obtain ⟨g1,g2,g3⟩:=kDE (S:=S) (h1.mod hw' (by simp)) (h2.mod hw' (by simp)) h3 (fun a h=>⟨(h4 a h).1,(h4 a h).2.1,Nat.lt_of_lt_of_le (h4 a h).2.2 hw'.size⟩) hr.short (k:=4) (by omega)
   have hcap:=h2.hcap
   simp [c1,Value.cells,hv]
   simp at g1 g2 g3
   exact ⟨by omega,by omega,g1,g2,hw'.nil.trans g3⟩
def qG (l:Int) (s:RS):Option (List UInt8)×RS :=
 if s.src.length<l∨l<0 then (none,RS.fail) else (if s.isnil then none else some (s.src.take l.toNat),{s with src:=s.src.drop l.toNat})
def OctX (S:List Nat) (w:World) (v:Value) (o:Option (List UInt8)):Prop :=
 kMW w v o ∧∀a n c,v=.slice (some a) n c→a.block ∉ S∧a.block<w.heap.size
theorem zV (hm:P.follows .mixedOrders=true) (h:kH P (F zF)=some (ir_rSpan F)) {S:List Nat} {rb:Nat} {s:RS} (hr:IsRd S w rb s) (l:Int) :
  Calls P (F zF) [.pointer (some ⟨rb,0,none⟩),.int .i64 l].toArray w fun e w' =>∃v,e=.returned v∧OctX (rb::S) w' v (qG l s).1∧IsRd S w' rb (qG l s).2∧Mod [rb] w w':=by
 obtain ⟨base,len,cap,h1,h2,h3,h4⟩:=hr.ex
 refine kT h hm (by simp) ?_
 have hlen:=h2.hlen
 have hcap:=h2.hcap
 have c0:w.cell? ⟨rb,0,none⟩=some (.slice base len cap):=h1.cell 0
 by_cases hlt:(len:Int)<l∨l<0
 ·have hv:qG l s=(none,RS.fail):=by unfold qG;rw [if_pos (by omega)]
  obtain ⟨f1,f2,f3,f4⟩:=vV (S:=S) h1
  have hx:(if (len:Int)<l then True else l<0):=by split<;>first|trivial|omega
  by_cases hl1:(len:Int)<l
  ·simp [Addr.kK,c0,hl1,Value.cells,f1,f2,f3,f4,hv]
   exact ⟨rfl,fun a n c h=>by simp at h⟩
  ·have hl2:l<0:=by omega
   simp [Addr.kK,c0,hl1,hl2,Value.cells,f1,f2,f3,f4,hv]
   exact ⟨rfl,fun a n c h=>by simp at h⟩
 ·have hl1 :¬(len:Int)<l:=by omega
  have hl2 :¬l<0:=by omega
  have hv:qG l s=(if s.isnil then none else some (s.src.take l.toNat),{s with src:=s.src.drop l.toNat}):=by unfold qG;rw [if_neg (by omega)]
  obtain ⟨g1,g2,g3⟩:=kDE (S:=S) h1 h2 h3 h4 hr.short (k:=l.toNat) (by omega)
  simp at g1 g2 g3
  simp [Addr.kK,c0,hl1,hl2,Value.cells,hv]
  refine ⟨by omega,by omega,by omega,by omega,by omega,g1,?_,g2,g3⟩
  have hb:(if l≤0 then base else Option.map (fun x=>x.add 0) base)=base:=by
   split
   ·rfl
   ·cases base<;>simp [Addr.add]
  rw [hb]
  have ht:=h2.take l.toNat (by omega)
  cases base with
  | none =>
    have h3':s.isnil=true:=by simpa using h3.symm
    have:=h2.hnone rfl
    rw [if_pos h3']
    have hl0:l.toNat=0:=by omega
    rw [hl0]
    exact ⟨rfl,fun a n c h=>by simp at h⟩
  | some a =>
    have h3' :¬s.isnil=true:=by simpa using h3.symm
    rw [if_neg h3']
    obtain ⟨k1,k2,k3⟩:=h4 a rfl
    refine ⟨⟨a,_,_,rfl,ht.mod g3 (by simpa using k1)⟩,fun a' n c h=>?_⟩
    simp only [Value.slice.injEq,Option.some.injEq] at h
    rw [←h.1,zX]
    exact ⟨by simp only [List.mem_cons,not_or];exact ⟨k1,k2⟩,k3⟩
def str (l:List UInt8):Value:=.string ⟨l.toArray⟩
theorem OctX.bytes {S:List Nat} {w:World} {v:Value} {o:Option (List UInt8)} (h:OctX S w v o) :
 ∃base n c,v=.slice base n c∧(match base with|none=>o.getD []=[]|some a=>(kV w a 0 n).bind bytesOf=some (o.getD [])):=by
 cases o with
 | none=>exact ⟨none,0,0,h.1,rfl⟩
 | some l =>
 obtain ⟨a,n,c,rfl,hb⟩:=h.1
 refine ⟨some a,n,c,rfl,?_⟩
 simp only [Option.getD_some]
 rw [kJ (hb.hcells a rfl) (by rw [kY,hb.hlen])]
 simp [kD9]
theorem yH (hm:P.follows .mixedOrders=true) (h:kH P (F qC)=some (ir_kUnsafeString F)) {S:List Nat} {v:Value} {o:Option (List UInt8)} (ho:OctX S w v o) :
 Calls P (F qC) [v].toArray w fun e w'=>e=.returned (str (o.getD []))∧w'=w:=by
 obtain ⟨base,n,c,rfl,hb⟩:=ho.bytes
 refine kT h hm (by simp) ?_
 cases base with
 | none=>simp at hb;simp [hb,str];rfl
 | some a=>simp only at hb;simp [hb,str]
def yO (s:RS):List UInt8×RS :=
 let (n,s1):=rdN 2 s
 let (o,s2):=qG (IntKind.i16.wrap n) s1
 (o.getD [],s2)
theorem kA9 (n:Int):IntKind.i64.wrap (IntKind.i16.wrap n)=IntKind.i16.wrap n:=by
 simp [IntKind.wrap,IntKind.bits,IntKind.signed]
 split<;>split<;>omega
theorem kHW (hm:P.follows .mixedOrders=true) (h:kH P (F kAE)=some (ir_rString F)) (h16:kH P (F j5)=some (ir_rInt16 F)) (hbe:kH P (F zC)=some (ir_beUint16 F))
 (hsp:kH P (F zF)=some (ir_rSpan F)):RdC P (F kAE) fun s=>(str (yO s).1,(yO s).2):=by
 intro S w rb s hr hS
 refine kT h hm (by simp) ?_
 simp []
 refine (wY hm h16 hbe S w rb s hr hS).mono ?_
 rintro e w1 ⟨rfl,hr1,hm1⟩
 simp [kA9]
 refine (zV hm hsp hr1 _).mono ?_
 rintro e w2 ⟨v,rfl,ho,hr2,hm2⟩
 obtain ⟨base,n,c,rfl,hb⟩:=ho.bytes
 cases base with
 | none=>simp at hb;simp [yO,hb,str];exact ⟨rfl,hr2,hm1.trans hm2⟩
 | some a=>simp only at hb;simp [yO,hb,str];exact ⟨hr2,hm1.trans hm2⟩
theorem kCE (hm:P.follows .mixedOrders=true) (h:kH P (F jP)=some (ir_rUnsafeString F)) (h16:kH P (F j5)=some (ir_rInt16 F)) (hbe:kH P (F zC)=some (ir_beUint16 F))
 (hsp:kH P (F zF)=some (ir_rSpan F)) (hus:kH P (F qC)=some (ir_kUnsafeString F)):RdC P (F jP) fun s=>(str (yO s).1,(yO s).2):=by
 intro S w rb s hr hS
 refine kT h hm (by simp) ?_
 simp []
 refine (wY hm h16 hbe S w rb s hr hS).mono ?_
 rintro e w1 ⟨rfl,hr1,hm1⟩
 simp [kA9]
 refine (zV hm hsp hr1 _).mono ?_
 rintro e w2 ⟨v,rfl,ho,hr2,hm2⟩
 simp
 refine (yH hm hus ho).mono ?_
 rintro e w3 ⟨rfl,rfl⟩
 simp [yO]
 exact ⟨hr2,hm1.trans hm2⟩
theorem kO6 (hm:P.follows .mixedOrders=true) (h:kH P (F rOk)=some (ir_rOk F)) {S:List Nat} {rb:Nat} {s:RS} (hr:IsRd S w rb s) :
 Calls P (F rOk) [.pointer (some ⟨rb,0,none⟩)].toArray w fun e w'=>e=.returned (.bool !s.bad)∧w'=w:=by
 obtain ⟨base,len,cap,h1,h2,h3,h4⟩:=hr.ex
 refine kT h hm (by simp) ?_
 have c1:w.cell? ⟨rb,1,none⟩=some (.bool s.bad):=h1.cell 1
 simp [Addr.kK,c1]
def GErr (g:Nat) (w:World) (T:TypeId) (v:Value):Prop:=w.cell? ⟨g,0,none⟩=some (.iface T v)
def errVal (bad:Bool) (T:TypeId) (v:Value):Value:=if bad then .iface T v else .nilIface
theorem kE5 (hm:P.follows .mixedOrders=true) (h:kH P (F jX)=some (ir_rComplete F)) {S:List Nat} {rb:Nat} {s:RS} (hr:IsRd S w rb s)
 {T:TypeId} {v:Value} (hg:GErr (F gErr) w T v) :
 Calls P (F jX) [.pointer (some ⟨rb,0,none⟩)].toArray w fun e w'=>e=.returned (errVal s.bad T v)∧w'=w:=by
 obtain ⟨base,len,cap,h1,h2,h3,h4⟩:=hr.ex
 refine kT h hm (by simp) ?_
 have c1:w.cell? ⟨rb,1,none⟩=some (.bool s.bad):=h1.cell 1
 unfold GErr at hg
 cases hb:s.bad<;>simp [Addr.kK,c1,hb,hg,errVal]
def yP (s:RS):Int×RS :=
 let n:=IntKind.i32.wrap (rdN 4 s).1
 if ((rdN 4 s).2.src.length:Int)<n then (0,RS.fail) else (n,(rdN 4 s).2)
theorem wM (n:Int):IntKind.i64.wrap (IntKind.i32.wrap n)=IntKind.i32.wrap n:=by
 simp [IntKind.wrap,IntKind.bits,IntKind.signed]
 split<;>split<;>omega
theorem kE6 (hm:P.follows .mixedOrders=true) (h:kH P (F xE)=some (ir_rArrayLen F)) (h32:kH P (F y8)=some (ir_rInt32 F)) (hbe:kH P (F jD)=some (ir_beUint32 F)) :
  RdC P (F xE) fun s=>(.int .i32 (yP s).1,(yP s).2):=by
 intro S w rb s hr hS
 refine kT h hm (by simp) ?_
 simp []
 refine (uS hm h32 hbe S w rb s hr hS).mono ?_
 rintro e w1 ⟨rfl,hr1,hm1⟩
 obtain ⟨base,len,cap,h1,h2,h3,h4⟩:=hr1.ex
 have c0:w1.cell? ⟨rb,0,none⟩=some (.slice base len cap):=h1.cell 0
 have hlen:=h2.hlen
 by_cases hlt:(len:Int)<IntKind.i32.wrap (rdN 4 s).1
 ·obtain ⟨f1,f2,f3,f4⟩:=vV (S:=S) h1
  have hv:yP s=(0,RS.fail):=by unfold yP;simp only;rw [if_pos (by rw [←hlen];exact hlt)]
  simp [Addr.kK,c0,wM,hlt,Value.cells,f1,f2,hv]
  exact ⟨f3,hm1.trans f4⟩
 ·have hv:yP s=(IntKind.i32.wrap (rdN 4 s).1,(rdN 4 s).2):=by unfold yP;simp only;rw [if_neg (by rw [←hlen];exact hlt)]
  simp [Addr.kK,c0,wM,hlt,hv]
  exact ⟨hr1,hm1⟩
def zZ (s:RS):Option (List UInt8)×RS :=
 let n:=IntKind.i32.wrap (rdN 4 s).1
 if n<0 then (none,(rdN 4 s).2) else qG n (rdN 4 s).2
theorem kBP (hm:P.follows .mixedOrders=true) (h:kH P (F jF)=some (ir_rNullableBytes F)) (h32:kH P (F y8)=some (ir_rInt32 F)) (hbe:kH P (F jD)=some (ir_beUint32 F))
  (hsp:kH P (F zF)=some (ir_rSpan F)) {S:List Nat} {rb:Nat} {s:RS} (hr:IsRd S w rb s) (hS:rb ∉ S) :
  Calls P (F jF) [.pointer (some ⟨rb,0,none⟩)].toArray w fun e w' =>∃v,e=.returned v∧OctX (rb::S) w' v (zZ s).1∧IsRd S w' rb (zZ s).2∧Mod [rb] w w':=by
 refine kT h hm (by simp) ?_
 simp []
 refine (uS hm h32 hbe S w rb s hr hS).mono ?_
 rintro e w1 ⟨rfl,hr1,hm1⟩
 by_cases hlt:IntKind.i32.wrap (rdN 4 s).1<0
 ·have hv:zZ s=(none,(rdN 4 s).2):=by unfold zZ;simp only;rw [if_pos hlt]
  simp [hlt,hv]
  exact ⟨⟨rfl,fun a n c h=>by simp at h⟩,hr1,hm1⟩
 ·have hv:zZ s=qG (IntKind.i32.wrap (rdN 4 s).1) (rdN 4 s).2:=by unfold zZ;simp only;rw [if_neg hlt]
  simp [hlt,hv,wM]
  refine (zV hm hsp hr1 _).mono ?_
  rintro e w2 ⟨v,rfl,ho,hr2,hm2⟩
  simp
  exact ⟨ho,hr2,hm1.trans hm2⟩
def PStr (n:Nat) (w:World) (v:Value):Option (List UInt8)→Prop
 | none=>v=.pointer none
 | some l =>∃b,v=.pointer (some ⟨b,0,none⟩)∧n≤b∧w.cell? ⟨b,0,none⟩=some (str l)
def kZ (s:RS):Option (List UInt8)×RS :=
 let n:=IntKind.i16.wrap (rdN 2 s).1
 if n<0 then (none,(rdN 2 s).2) else (some ((qG n (rdN 2 s).2).1.getD []),(qG n (rdN 2 s).2).2)
theorem kBF (hm:P.follows .mixedOrders=true) (h:kH P (F zY)=some (ir_rNullableString F)) (h16:kH P (F j5)=some (ir_rInt16 F)) (hbe:kH P (F zC)=some (ir_beUint16 F))
  (hsp:kH P (F zF)=some (ir_rSpan F)) {S:List Nat} {rb:Nat} {s:RS} (hr:IsRd S w rb s) (hS:rb ∉ S) :
  Calls P (F zY) [.pointer (some ⟨rb,0,none⟩)].toArray w fun e w' =>∃v,e=.returned v∧PStr w.heap.size w' v (kZ s).1∧IsRd S w' rb (kZ s).2∧Mod [rb] w w':=by
 refine kT h hm (by simp) ?_
 simp []
 refine (wY hm h16 hbe S w rb s hr hS).mono ?_
 rintro e w1 ⟨rfl,hr1,hm1⟩
 by_cases hlt:IntKind.i16.wrap (rdN 2 s).1<0
 ·have hv:kZ s=(none,(rdN 2 s).2):=by unfold kZ;simp only;rw [if_pos hlt]
  simp [hlt,hv]
  exact ⟨rfl,hr1,hm1⟩
 ·have hv:kZ s=(some ((qG (IntKind.i16.wrap (rdN 2 s).1) (rdN 2 s).2).1.getD []),(qG (IntKind.i16.wrap (rdN 2 s).1) (rdN 2 s).2).2):=by unfold kZ;simp only;rw [if_neg hlt]
  simp [hlt,hv,kA9]
  refine (zV hm hsp hr1 _).mono ?_
  rintro e w2 ⟨v,rfl,ho,hr2,hm2⟩
  obtain ⟨base,n,c,rfl,hb⟩:=ho.bytes
  simp only at hr1 hr2 hb
  have hbox :∀T,_:=fun T=>wV w2 [.string .empty] [str ((qG (IntKind.i16.wrap (rdN 2 s).1) (rdN 2 s).2).1.getD [])] T rfl (by simp [str,Value.oneCell'])
  have hfin :∀T,PStr w.heap.size (putCells (w2.alloc (.cells [.string .empty].toArray T)) ⟨w2.heap.size,0,none⟩ 0 [str ((qG (IntKind.i16.wrap (rdN 2 s).1) (rdN 2 s).2).1.getD [])])
    (.pointer (some ⟨w2.heap.size,0,none⟩)) (some ((qG (IntKind.i16.wrap (rdN 2 s).1) (rdN 2 s).2).1.getD [])):=fun T =>
   ⟨_,rfl,Nat.le_trans hm1.size hm2.size,(hbox T).2.1.cell 0⟩
  have hrd :∀T,IsRd S (putCells (w2.alloc (.cells [.string .empty].toArray T)) ⟨w2.heap.size,0,none⟩ 0 [str ((qG (IntKind.i16.wrap (rdN 2 s).1) (rdN 2 s).2).1.getD [])]) rb (qG (IntKind.i16.wrap (rdN 2 s).1) (rdN 2 s).2).2 :=
   fun T=>hr2.mod (hbox T).2.2 (by simp) (by simp)
  have hmod :∀T,Mod [rb] w (putCells (w2.alloc (.cells [.string .empty].toArray T)) ⟨w2.heap.size,0,none⟩ 0 [str ((qG (IntKind.i16.wrap (rdN 2 s).1) (rdN 2 s).2).1.getD [])]) :=
   fun T=>(hm1.trans hm2).trans (hbox T).2.2.nil
  cases base with
  | none =>
    simp only at hb
    rw [hb] at hbox hfin hrd hmod
    have e:str []=.string .empty:=rfl
    rw [e] at hbox hfin hrd hmod
    simp [hb,Value.cells]
    intro T
    exact ⟨(hbox T).1,hfin T,hrd T,hmod T⟩
  | some a =>
    simp only at hb
    simp [hb,Value.cells]
    intro T
    exact ⟨(hbox T).1,hfin T,hrd T,hmod T⟩
theorem vK (hm:P.follows .mixedOrders=true) (h:kH P (F qO)=some (ir_rUnsafeNullableString F)) (h16:kH P (F j5)=some (ir_rInt16 F)) (hbe:kH P (F zC)=some (ir_beUint16 F))
  (hsp:kH P (F zF)=some (ir_rSpan F)) (hus:kH P (F qC)=some (ir_kUnsafeString F)) {S:List Nat} {rb:Nat} {s:RS} (hr:IsRd S w rb s) (hS:rb ∉ S) :
  Calls P (F qO) [.pointer (some ⟨rb,0,none⟩)].toArray w fun e w' =>∃v,e=.returned v∧PStr w.heap.size w' v (kZ s).1∧IsRd S w' rb (kZ s).2∧Mod [rb] w w':=by
 refine kT h hm (by simp) ?_
 simp []
 refine (wY hm h16 hbe S w rb s hr hS).mono ?_
 rintro e w1 ⟨rfl,hr1,hm1⟩
 by_cases hlt:IntKind.i16.wrap (rdN 2 s).1<0
 ·have hv:kZ s=(none,(rdN 2 s).2):=by unfold kZ;simp only;rw [if_pos hlt]
  simp [hlt,hv]
  exact ⟨rfl,hr1,hm1⟩
 ·have hv:kZ s=(some ((qG (IntKind.i16.wrap (rdN 2 s).1) (rdN 2 s).2).1.getD []),(qG (IntKind.i16.wrap (rdN 2 s).1) (rdN 2 s).2).2):=by unfold kZ;simp only;rw [if_neg hlt]
  simp [hlt,hv,kA9]
  refine (zV hm hsp hr1 _).mono ?_
  rintro e w2 ⟨v,rfl,ho,hr2,hm2⟩
  simp only at hr1 hr2
  simp
  refine (yH hm hus ho).mono ?_
  rintro e w3 ⟨rfl,rfl⟩
  simp [Value.cells,str]
  intro T
  obtain ⟨b1,b2,b3⟩:=wV w3 [.string .empty] [str ((qG (IntKind.i16.wrap (rdN 2 s).1) (rdN 2 s).2).1.getD [])] T rfl (by simp [str,Value.oneCell'])
  exact ⟨b1,⟨_,rfl,Nat.le_trans hm1.size hm2.size,b2.cell 0⟩,hr2.mod b3 (by simp) (by simp),(hm1.trans hm2).trans b3.nil⟩
end
def SlC (ok:Nat→Prop) (w:World) (v:Value) (n:Nat) (cells:List Value):Prop :=
 ∃base cap,v=.slice base n cap∧n≤cap∧(base=none→cap=0) ∧∀a,base=some a→0<cap→ok a.block∧a.block<w.heap.size∧Cells w a cells
theorem SlC.mod {ok ok':Nat→Prop} {S:List Nat} {w w':World} {v:Value} {n:Nat} {cells:List Value} (h:SlC ok w v n cells) (hm:Mod S w w') (hS :∀b∈S,¬ok b) (ho :∀b,b<w.heap.size→ok b→ok' b):SlC ok' w' v n cells:=by
 obtain ⟨base,cap,h1,h2,h3,h4⟩:=h
 refine ⟨base,cap,h1,h2,h3,fun a ha hc=>?_⟩
 obtain ⟨k1,k2,k3⟩:=h4 a ha hc
 exact ⟨ho _ k2 k1,Nat.lt_of_lt_of_le k2 hm.size,k3.mod hm (.inr fun hc=>hS _ hc k1)⟩
theorem SlC.nil {ok:Nat→Prop} {w:World}:SlC ok w (.slice none 0 0) 0 []:=⟨none,0,rfl,Nat.le_refl _,fun _=>rfl,fun a h=>by simp at h⟩
theorem SlC.one {ok:Nat→Prop} {w:World} {v:Value} {n:Nat} {cells:List Value} (h:SlC ok w v n cells):v.oneCell'=true:=by
 obtain ⟨base,cap,rfl,-⟩:=h;rfl
inductive EntL (ok:Nat→Prop) (w:World):List MapEntry→List (Nat×List UInt8)→Prop
 | nil:EntL ok w [] []
 | cons {e:MapEntry} {k:Nat} {l:List UInt8} {es:List MapEntry} {m:List (Nat×List UInt8)}:e.key=.int .u32 k→k<4294967296→SlC ok w e.val l.length (u8s l)→EntL ok w es m→EntL ok w (e::es) ((k,l)::m)
structure y9 (ok:Nat→Prop) (w:World) (r:Nat) (m:List (Nat×List UInt8)):Prop where
 ex :∃es clock,w.heap[r]?=some (.map es clock)∧EntL ok w es.toList m∧(es.toList.map (·.born)).Nodup ∧∀e∈es.toList,e.born<clock
 keys:(m.map (·.1)).Nodup
theorem EntL.mod {ok ok':Nat→Prop} {S:List Nat} {w w':World} {es:List MapEntry} {m:List (Nat×List UInt8)} (h:EntL ok w es m) (hm:Mod S w w') (hS :∀b∈S,¬ok b) (ho :∀b,b<w.heap.size→ok b→ok' b):EntL ok' w' es m:=by
 induction h with
 | nil=>exact .nil
 | cons h1 h2 h3 _ ih=>exact .cons h1 h2 (h3.mod hm hS ho) ih
theorem y9.lt {ok:Nat→Prop} {w:World} {r:Nat} {m:List (Nat×List UInt8)} (h:y9 ok w r m):r<w.heap.size:=by
 obtain ⟨es,clock,h,-⟩:=h.ex
 exact (Array.getElem?_eq_some_iff.1 h).1
theorem y9.mod {ok ok':Nat→Prop} {S:List Nat} {w w':World} {r:Nat} {m:List (Nat×List UInt8)} (h:y9 ok w r m) (hm:Mod S w w') (hr:r ∉ S) (hS :∀b∈S,¬ok b) (ho :∀b,b<w.heap.size→ok b→ok' b):y9 ok' w' r m:=by
 have hlt:=h.lt
 obtain ⟨es,clock,h1,h2,h3,h4⟩:=h.ex
 exact ⟨⟨es,clock,by rw [hm.block r hlt hr];exact h1,h2.mod hm hS ho,h3,h4⟩,h.keys⟩
inductive GV where
 | num (v:Value)
 | nstr (o:Option (List UInt8))
 | byt (o:Option (List UInt8))
 | arr (l:List UInt8)
 | lst (isnil:Bool) (sz:Nat) (l:List GV)
 | rcd (l:List GV)
 | tag (m:List (Nat×List UInt8))
 deriving Inhabited
mutual
/-- The cells read as the value; what they refer to lies in none of the blocks O. -/
inductive Rep (O:List Nat) (w:World):GV→List Value→Prop
 | num {v:Value}:v.oneCell'=true→Rep O w (.num v) [v]
 | nstr0:Rep O w (.nstr none) [.pointer none]
 | nstr1 {b:Nat} {l:List UInt8}:b ∉ O→w.cell? ⟨b,0,none⟩=some (str l)→Rep O w (.nstr (some l)) [.pointer (some ⟨b,0,none⟩)]
 | byt {v:Value} {o:Option (List UInt8)}:OctX O w v o→Rep O w (.byt o) [v]
 | arr {l:List UInt8}:Rep O w (.arr l) (u8s l)
 | lst0 {sz:Nat}:Rep O w (.lst true sz []) [.slice none 0 0]
 | lst1 {a:Addr} {n c sz:Nat} {l:List GV} {css:List (List Value)}:a.block ∉ O→a.block<w.heap.size→n=l.length→n≤c→(∀cs∈css,cs.length=sz)→RepL O w l css →
 Cells w a css.flatten→Rep O w (.lst false sz l) [.slice (some a) n c]
 | rcd {l:List GV} {css:List (List Value)}:RepL O w l css→Rep O w (.rcd l) css.flatten
 | tag0:Rep O w (.tag []) [.map none]
 | tag1 {r:Nat} {m:List (Nat×List UInt8)}:r ∉ O→y9 (fun b=>b ∉ O) w r m→Rep O w (.tag m) [.map (some r)]
inductive RepL (O:List Nat) (w:World):List GV→List (List Value)→Prop
 | nil:RepL O w [] []
 | cons {g:GV} {l:List GV} {cs:List Value} {css:List (List Value)}:Rep O w g cs→RepL O w l css→RepL O w (g::l) (cs::css)
end
theorem OctX.mod {O T:List Nat} {w w':World} {v:Value} {o:Option (List UInt8)} (h:OctX O w v o) (hm:Mod T w w') (hT :∀x∈T,x∈O):OctX O w' v o:=by
 obtain ⟨h1,h2⟩:=h
 refine ⟨?_,fun a n c e=>⟨(h2 a n c e).1,Nat.lt_of_lt_of_le (h2 a n c e).2 hm.size⟩⟩
 cases o with
 | none=>exact h1
 | some l =>
 obtain ⟨a,n,c,rfl,hb⟩:=h1
 exact ⟨a,n,c,rfl,hb.mod hm (fun a' e hc=>by cases e;exact (h2 a n c rfl).1 (hT _ hc))⟩
theorem OctX.weaken {O O':List Nat} {w:World} {v:Value} {o:Option (List UInt8)} (h:OctX O w v o) (hO :∀x∈O',x∈O):OctX O' w v o :=
 ⟨h.1,fun a n c e=>⟨fun hc=>(h.2 a n c e).1 (hO _ hc),(h.2 a n c e).2⟩⟩
theorem zH {T:List Nat} {w w':World} {a:Addr} {v:Value} (h:w.cell? a=some v) (hm:Mod T w w') (hT:a.block ∉ T):w'.cell? a=some v:=by
 rw [World.cell?_of_block (w:=w) (hm.block _ (World.block_lt_of_cell? w a h) hT)];exact h
theorem Rep.mod {O T:List Nat} {w w':World} (hm:Mod T w w') (hT :∀x∈T,x∈O) {g:GV} {cs:List Value} (h:Rep O w g cs):Rep O w' g cs:=by
 refine Rep.rec (motive_1:=fun g cs _=>Rep O w' g cs) (motive_2:=fun l css _=>RepL O w' l css) ?_ ?_ ?_ ?_ ?_ ?_ ?_ ?_ ?_ ?_ ?_ ?_ h
 ·intro v hv;exact .num hv
 ·exact .nstr0
 ·intro b l hb hc;exact .nstr1 hb (zH hc hm (fun h=>hb (hT _ h)))
 ·intro v o ho;exact .byt (ho.mod hm hT)
 ·intro l;exact .arr
 ·intro sz;exact .lst0
 ·intro a n c sz l css ha hlt hn hc hsz _ hcells ih
  exact .lst1 ha (Nat.lt_of_lt_of_le hlt hm.size) hn hc hsz ih (hcells.mod hm (.inr fun h=>ha (hT _ h)))
 ·intro l css _ ih;exact .rcd ih
 ·exact .tag0
 ·intro r m hr h;exact .tag1 hr (h.mod hm (fun hx=>hr (hT _ hx)) (fun b hb hx=>hx (hT _ hb)) fun _ _ h=>h)
 ·exact .nil
 ·intro g l cs css _ _ ih1 ih2;exact .cons ih1 ih2
theorem RepL.mod {O T:List Nat} {w w':World} (hm:Mod T w w') (hT :∀x∈T,x∈O) {l:List GV} {css:List (List Value)} (h:RepL O w l css):RepL O w' l css:=by
 induction l generalizing css with
 | nil=>cases h;exact .nil
 | cons g l ih=>cases h with|cons h1 h2=>exact .cons (h1.mod hm hT) (ih h2)
theorem Rep.weaken {O O':List Nat} {w:World} (hO :∀x∈O',x∈O) {g:GV} {cs:List Value} (h:Rep O w g cs):Rep O' w g cs:=by
 refine Rep.rec (motive_1:=fun g cs _=>Rep O' w g cs) (motive_2:=fun l css _=>RepL O' w l css) ?_ ?_ ?_ ?_ ?_ ?_ ?_ ?_ ?_ ?_ ?_ ?_ h
 ·intro v hv;exact .num hv
 ·exact .nstr0
 ·intro b l hb hc;exact .nstr1 (fun h=>hb (hO _ h)) hc
 ·intro v o ho;exact .byt (ho.weaken hO)
 ·intro l;exact .arr
 ·intro sz;exact .lst0
 ·intro a n c sz l css ha hlt hn hc hsz _ hcells ih
  exact .lst1 (fun h=>ha (hO _ h)) hlt hn hc hsz ih hcells
 ·intro l css _ ih;exact .rcd ih
 ·exact .tag0
 ·intro r m hr h;exact .tag1 (fun hx=>hr (hO _ hx)) (h.mod (Mod.refl [] _) (by simp) (by simp) fun b _ hb hx=>hb (hO _ hx))
 ·exact .nil
 ·intro g l cs css _ _ ih1 ih2;exact .cons ih1 ih2
theorem RepL.weaken {O O':List Nat} {w:World} (hO :∀x∈O',x∈O) {l:List GV} {css:List (List Value)} (h:RepL O w l css):RepL O' w l css:=by
 induction l generalizing css with
 | nil=>cases h;exact .nil
 | cons g l ih=>cases h with|cons h1 h2=>exact .cons (h1.weaken hO) (ih h2)
theorem Rep.oneCell {O:List Nat} {w:World} {g:GV} {cs:List Value} (h:Rep O w g cs) :∀v∈cs,v.oneCell'=true:=by
 refine Rep.rec (motive_1:=fun g cs _ =>∀v∈cs,v.oneCell'=true) (motive_2:=fun l css _ =>∀v∈css.flatten,v.oneCell'=true) ?_ ?_ ?_ ?_ ?_ ?_ ?_ ?_ ?_ ?_ ?_ ?_ h
 ·intro v hv u hu;simp at hu;subst hu;exact hv
 ·intro v hv;simp at hv;subst hv;rfl
 ·intro b l _ _ v hv;simp at hv;subst hv;rfl
 ·intro v o ho u hu
  simp at hu;subst hu
  cases o with
  | none=>have:=ho.1;simp only [kMW] at this;subst this;rfl
  | some l=>obtain ⟨a,n,c,rfl,-⟩:=ho.1;rfl
 ·intro l v hv;simp [u8s] at hv;obtain ⟨b,-,rfl⟩:=hv;rfl
 ·intro sz v hv;simp at hv;subst hv;rfl
 ·intro a n c sz l css _ _ _ _ _ _ _ _ v hv;simp at hv;subst hv;rfl
 ·intro l css _ ih;exact ih
 ·intro v hv;simp at hv;subst hv;rfl
 ·intro r m _ _ v hv;simp at hv;subst hv;rfl
 ·intro v hv;simp at hv
 ·intro g l cs css _ _ ih1 ih2 v hv
  simp only [List.flatten_cons,List.mem_append] at hv
  rcases hv with hv|hv
  ·exact ih1 v hv
  ·exact ih2 v hv
theorem RepL.length {O:List Nat} {w:World} {l:List GV} {css:List (List Value)} (h:RepL O w l css):l.length=css.length:=by
 induction l generalizing css with
 | nil=>cases h;rfl
 | cons g l ih=>cases h with|cons h1 h2=>simp [ih h2]
theorem RepL.append {O:List Nat} {w:World} {l l':List GV} {css css':List (List Value)} (h:RepL O w l css) (h':RepL O w l' css'):RepL O w (l++l') (css++css'):=by
 induction l generalizing css with
 | nil=>cases h;exact h'
 | cons g l ih=>cases h with|cons h1 h2=>exact .cons h1 (ih h2)
def seqs:List IC→IC
 | []=>.skip
 | [a]=>a
 | a::b::r=>.seq a (seqs (b::r))
def wpL (P:Program):List IC→(Exit→Sl→World→Prop)→Sl→World→Prop
 | [],Q,σ,w=>Q .normal σ w
 | a::r,Q,σ,w=>wpC P a (kF (wpL P r Q) Q) σ w
theorem kFH (Q:Exit→Sl→World→Prop):kF (Q .normal) Q=Q:=by
 funext e σ w;cases e<;>rfl
theorem wO {P:Program} :∀(l r:List IC) (Q:Exit→Sl→World→Prop) (σ:Sl) (w:World),wpL P (l++r) Q σ w=wpL P l (kF (wpL P r Q) Q) σ w
 | [],r,Q,σ,w=>rfl
 | a::l,r,Q,σ,w=>by
   have h:wpL P (l++r) Q=wpL P l (kF (wpL P r Q) Q):=by funext σ w;exact wO l r Q σ w
   have h2:kF (wpL P l (kF (wpL P r Q) Q)) (kF (wpL P r Q) Q)=kF (wpL P l (kF (wpL P r Q) Q)) Q:=by
    funext e σ w;cases e<;>rfl
   show wpC P a (kF (wpL P (l++r) Q) Q) σ w=wpC P a (kF (wpL P l (kF (wpL P r Q) Q)) (kF (wpL P r Q) Q)) σ w
   rw [h,h2]
theorem yB {P:Program} :∀(l:List IC) (Q:Exit→Sl→World→Prop) (σ:Sl) (w:World),wpC P (seqs l) Q σ w=wpL P l Q σ w
 | [],Q,σ,w=>rfl
 | [a],Q,σ,w=>by
   show wpC P a Q σ w=wpC P a (kF (Q .normal) Q) σ w
   rw [kFH]
 | a::b::r,Q,σ,w=>by
   have h:wpC P (seqs (b::r)) Q=wpL P (b::r) Q:=by funext σ w;exact yB (b::r) Q σ w
   show wpC P a (kF (wpC P (seqs (b::r)) Q) Q) σ w=_
   rw [h];rfl
def Ag (n:Nat) (σ σ':Sl):Prop :=∀t,t<n→σ' t=σ t
theorem Ag.refl (n:Nat) (σ:Sl):Ag n σ σ:=fun _ _=>rfl
theorem Ag.trans {n:Nat} {a b c:Sl} (h:Ag n a b) (k:Ag n b c):Ag n a c:=fun t ht=>(k t ht).trans (h t ht)
theorem Ag.mono {n m:Nat} {a b:Sl} (h:Ag n a b) (hm:m≤n):Ag m a b:=fun t ht=>h t (by omega)
theorem Ag.upd {n k:Nat} {a b:Sl} {v:Value} (h:Ag n a b) (hk:n≤k):Ag n a (upd b k v):=fun t ht=>by
 rw [Msk.upd_ne _ _ (by omega)];exact h t ht
inductive VC where
 | all
 | ge (n:Int)
 | rng (a b:Int)
 deriving Inhabited,DecidableEq,Repr
def VC.holds (v:Int):VC→Bool
 | .all=>true
 | .ge n=>decide (v≥n)
 | .rng a b=>decide (v≥a)&&decide (v≤b)
end Go.Msk
