/- A small language of resolved operations, and what the generic and the generated functions do in it (part 15). -/
import Derived.Test.YtfoljfjkifiboaaGreatDoorFn
import Derived.WideKeyArgs
namespace Go.Msk
open Go.RowKit
set_option maxRecDepth 100000
def rtV (T:Top) (A:ATop) (m:MD) (ver:Int):Bool :=
 T.rv.isNone&&(T.x ver==m.qZ ver)&&(A.x ver==m.qZ ver)&&neB ver (m.qZ ver) m.fs&&T.sc.rtB ver (m.qZ ver) m.fs A.ap
def rtOk (T:Top) (A:ATop) (m:MD) (most:Nat):Bool:=FD.zN m.fs&&(List.range (most+1)).all fun v=>rtV T A m (v:Nat)
def valM (k:Int) (part:Nat):Nat:=if k=10 then part else if k=8∨k=9 then 32772 else 16
def tagM (x:Bool):Nat:=if x then 5+32767*32777 else 0
mutual
def FD.maxB (x:Bool):FD→Nat
 | .mk kind _ _ _ _ _ of sub=>if kind=11 then 5+32767*valM of (FD.maxL x sub+tagM x) else 1+valM kind (FD.maxL x sub+tagM x)
def FD.maxL (x:Bool):List FD→Nat
 | []=>0
 | f::l=>f.maxB x+FD.maxL x l
end
theorem lenU_le (n : Nat) : lenU n ≤ 5 := by unfold lenU;repeat' split
                                             all_goals omega
theorem kCN {n:Nat} (h:n<4294967296):(uvE n).length≤5:=by rw [kLX h];exact lenU_le n
theorem kB5 {x nl:Bool} {n k:Nat} (hn:n≤32767) (hk:k≤4):(zD x nl n k).length≤5:=by
 have:=kCN (n:=n+1) (by omega)
 unfold zD
 cases x<;>cases nl<;>simp [zL]<;>omega
theorem kNT {x nl:Bool} {k:Int} {part:TR→List UInt8} {t:TR} {M:Nat} (hp:(part t).length≤M):(valP x k part nl t).length≤valM k M:=by
 have hw:=jC t.s
 have hw2:(if nl=true then [] else kN t.s).length≤32767:=by cases nl<;>simp<;>omega
 unfold valP valM
 by_cases h0:k=0
 ·subst h0;simp
 rw [if_neg h0]
 by_cases h7:k=7
 ·subst h7;simp [vF];omega
 rw [if_neg h7]
 by_cases h8:k=8
 ·subst h8
  have:=kB5 (x:=x) (nl:=nl) (k:=2) hw2 (by omega)
  simp only [if_true,List.length_append]
  rw [if_neg (show¬((8:Int)=10) by decide),if_pos (Or.inl trivial)];omega
 rw [if_neg h8]
 by_cases h9:k=9
 ·subst h9
  have:=kB5 (x:=x) (nl:=nl) (k:=4) hw2 (by omega)
  simp only [if_true,List.length_append]
  rw [if_neg (show¬((9:Int)=10) by decide),if_pos (Or.inr trivial)];omega
 rw [if_neg h9]
 by_cases h10:k=10
 ·subst h10;simp only [if_true];exact hp
 ·rw [if_neg h10,if_neg h10,if_neg (by omega),zL]
  have:=kID k;omega
theorem kG3 {α:Type} {f:α→List UInt8} {M:Nat} :∀{l:List α},(∀y∈l,(f y).length≤M)→(l.flatMap f).length≤l.length*M
 | [],_=>by simp
 | y::l,h=>by
   have h1:=h y (by simp)
   have h2:=kG3 (l:=l) fun z hz=>h z (by simp [hz])
   simp only [List.flatMap_cons,List.length_append,List.length_cons,Nat.add_mul,Nat.one_mul]
   omega
theorem kG4 {x:Bool} {u:List (Nat×List UInt8)} (h :∀p∈u,p.1<4294967296):(kCM x u).length≤tagM x:=by
 obtain ⟨h1,h2⟩:=kIR h
 cases x with
 | false=>simp [kCM,tagM]
 | true =>
   have e1:=kCN (n:=(unk u).length) (by omega)
   have e2:(y7 (unk u)).length≤(unk u).length*32777:=kG3 fun p hp=>by
    have a:=kCN (h1.2 p hp)
    have b:=jC p.2
    have c:=kCN (n:=(kN p.2).length) (by omega)
    simp only [List.length_append];omega
   simp only [kCM,tagM,if_true,List.length_append]
   have:(unk u).length*32777≤32767*32777:=Nat.mul_le_mul_right _ h2
   omega
theorem TR.kJ7 {t:TR} (h:t.kok) :∀p∈t.u,p.1<4294967296:=by cases t;exact h.1
mutual
theorem FD.enc_le (ver:Int) (x:Bool) :∀(f:FD) (t:TR),f.plain=true→t.kok→(f.enc ver x t).length≤f.maxB x
 | .mk kind frm to null tag dfl of sub,t,hp,hk=>by
   simp only [FD.plain,Bool.and_eq_true,decide_eq_true_eq] at hp
   have hpl:=hp.2.2
   have part :∀y:TR,y.kok→(vM x (zI ver x sub 0 y) (kU sub y.u)).length≤FD.maxL x sub+tagM x:=fun y hy=>by
    rw [kDT hpl,List.length_append]
    have a:=FD.kBD ver x sub 0 y hpl hy
    have b:=kG4 (x:=x) (TR.kJ7 hy)
    omega
   rw [FD.kBY]
   simp only [FD.kind,FD.of,FD.null,FD.sub,FD.maxB]
   unfold xY
   by_cases h11:kind=11
   ·rw [if_pos h11,if_pos h11,List.length_append]
    have hl:(if FD.jR (.mk kind frm to null tag dfl of sub) ver t=true then [] else t.l.take 32767).length≤32767:=by
     split
     ·simp
     ·exact kB4 _
    have c:=kB5 (x:=x) (nl:=FD.jR (.mk kind frm to null tag dfl of sub) ver t) (k:=4) hl (by omega)
    have f1:((if FD.jR (.mk kind frm to null tag dfl of sub) ver t=true then [] else t.l.take 32767).flatMap (valP x of (fun y=>vM x (zI ver x sub 0 y) (kU sub y.u)) false)).length≤(if FD.jR (.mk kind frm to null tag dfl of sub) ver t=true then [] else t.l.take 32767).length*valM of (FD.maxL x sub+tagM x) :=
     kG3 fun y hy=>kNT (part y (by
      split at hy
      ·simp at hy
      ·exact TR.kEU hk (List.mem_of_mem_take hy)))
    have:=Nat.mul_le_mul_right (valM of (FD.maxL x sub+tagM x)) hl
    omega
   ·rw [if_neg h11,if_neg h11]
    split
    ·rename_i h10
     have:valM kind (FD.maxL x sub+tagM x)=FD.maxL x sub+tagM x:=by unfold valM;rw [if_pos h10.1]
     rw [this]
     split
     ·rw [zL];omega
     ·rw [List.length_append,zL]
      have:((fun y=>vM x (zI ver x sub 0 y) (kU sub y.u)) t).length≤FD.maxL x sub+tagM x:=part t hk
      omega
    ·have:=kNT (x:=x) (nl:=FD.jR (.mk kind frm to null tag dfl of sub) ver t) (k:=kind) (part:=fun y=>vM x (zI ver x sub 0 y) (kU sub y.u)) (part t hk)
     omega
theorem FD.kBD (ver:Int) (x:Bool) :∀(l:List FD) (i:Nat) (t:TR),FD.zN l=true→t.kok→(zI ver x l i t).length≤FD.maxL x l
 | [],_,_,_,_=>by simp [zI]
 | f::l,i,t,hp,hk=>by
   simp only [FD.zN,Bool.and_eq_true] at hp
   have a:=FD.enc_le ver x f (t.at i) hp.1 (hk.at i)
   have b:=FD.kBD ver x l (i+1) t hp.2 hk
   simp only [zI,FD.maxL,List.length_append]
   split
   ·omega
   ·simp;omega
end
theorem kNU {m:MD} {ver:Int} {t:TR} {N:Nat} (hp:FD.zN m.fs=true) (hk:t.kok) (hN:FD.maxL (m.qZ ver) m.fs+tagM (m.qZ ver)≤N):(kIN m ver t).length≤N:=by
 have e:kIN m ver t=zI ver (m.qZ ver) m.fs 0 t++kCM (m.qZ ver) t.u:=by
  unfold kIN yV
  rw [yY hp];rfl
 rw [e,List.length_append]
 have a:=FD.kBD ver (m.qZ ver) m.fs 0 t hp hk
 have b:=kG4 (x:=m.qZ ver) (TR.kJ7 hk)
 omega
end Go.Msk
namespace Go.Msk
set_option maxRecDepth 100000
def wtU:List (Nat×List UInt8)→Nat
 | []=>0
 | p::u=>1+p.2.length+wtU u
mutual
/-- How much a tree holds. -/
def TR.wt:TR→Nat
 | .mk _ s _ l u=>1+s.length+TR.wtL l+wtU u
def TR.wtL:List TR→Nat
 | []=>0
 | t::l=>t.wt+TR.wtL l
end
mutual
/-- All numbers have 64 bits. -/
def TR.nok:TR→Prop
 | .mk n _ _ l _=>IntKind.i64.wrap n=n∧TR.nokL l
def TR.nokL:List TR→Prop
 | []=>True
 | t::l=>t.nok∧TR.nokL l
end
theorem TR.kDU :∀{l:List TR},TR.nokL l →∀t∈l,t.nok
 | [],_,t,h=>by simp at h
 | a::l,hs,t,h=>by
   simp only [TR.nokL] at hs
   rcases List.mem_cons.1 h with rfl|h
   ·exact hs.1
   ·exact TR.kDU hs.2 t h
theorem TR.nok.at {t:TR} (h:t.nok) (i:Nat):(t.at i).nok:=by
 unfold TR.at
 cases hg:t.l[i]? with
 | none=>exact ⟨by decide,trivial⟩
 | some y =>
   cases t with
   | mk n s b l u=>exact TR.kDU h.2 y (List.mem_of_getElem? hg)
end Go.Msk
namespace Go.Msk
open Go.RowKit Go.ChangeShapes Go.WideShapes Go.ChangeAt
set_option maxRecDepth 100000
structure kK4 (P:Program) (tT ti tS u8 tB tL tU tG tk:TypeId):Prop where
 hT :∃fs:Array Field,P.underlying tT=some (.struct fs)∧fs.toList.map (fun f=>(f.type,f.offset))=[(ti,0),(tS,1),(tB,2),(tL,3),(tU,4)]
 cT:P.cellsOf tT=5
 hi:P.underlying ti=some (.int .i64)
 ci:P.cellsOf ti=1
 hS:P.underlying tS=some (.slice u8)
 cS:P.cellsOf tS=1
 h8:P.underlying u8=some (.int .u8)
 c8:P.cellsOf u8=1
 hB:P.underlying tB=some .bool
 cB:P.cellsOf tB=1
 hL:P.underlying tL=some (.slice tT)
 cL:P.cellsOf tL=1
 hU:P.underlying tU=some (.slice tG)
 cU:P.cellsOf tU=1
 hG :∃fs:Array Field,P.underlying tG=some (.struct fs)∧fs.toList.map (fun f=>(f.type,f.offset))=[(tk,0),(tS,1)]
 cG:P.cellsOf tG=2
 hk:P.underlying tk=some (.int .u32)
 ck:P.cellsOf tk=1
structure Bulk {H:Type} (f:DataW H→Nat) (fa:List (DataW H)→Nat):Prop where
 int :∀k n,1≤f (.lit (.int k n))
 bool :∀b,1≤f (.lit (.bool b))
 none:1≤f .nil
 slice :∀a b,f (.slice a b)=fa a+fa b+1
 agg :∀a,f (.agg a)=fa a+1
 nil:fa []=0
 cons :∀d r,fa (d::r)=f d+fa r
theorem Cells.join {w:World} {B o:Nat} {a b:List Value} (h:Cells w ⟨B,o,none⟩ a) (k:Cells w ⟨B,o+a.length,none⟩ b):Cells w ⟨B,o,none⟩ (a++b):=by
 refine ⟨rfl,fun i v hv=>?_⟩
 by_cases hi:i<a.length
 ·rw [List.getElem?_append_left hi] at hv;exact h.2 i v hv
 ·rw [List.getElem?_append_right (by omega)] at hv
  have:=k.2 _ v hv
  rwa [show o+a.length+(i-a.length)=o+i by omega] at this
theorem Cells.kNV {w:World} {B sz:Nat} :∀{css:List (List Value)} {o:Nat},(∀c∈css,c.length=sz)→(∀(i:Nat) (c:List Value),css[i]?=some c→Cells w ⟨B,o+i*sz,none⟩ c)→Cells w ⟨B,o,none⟩ css.flatten
 | [],o,_,_=>⟨rfl,fun i v hv=>by simp at hv⟩
 | c::css,o,hs,h=>by
   rw [List.flatten_cons]
   have h0:=h 0 c rfl
   refine Cells.join (by simpa using h0) ?_
   rw [hs c (by simp)]
   refine Cells.kNV (fun x hx=>hs x (by simp [hx])) fun i x hx=>?_
   have:=h (i+1) x (by simpa using hx)
   rwa [show o+sz+i*sz=o+(i+1)*sz by rw [Nat.add_mul,Nat.one_mul];omega]
section
variable {H:Type} {enc:TypeId×Value→H} {P:Program} {w:World}
theorem uV {a:Addr} {n:Nat} {cs:List Value} (h:w.cells? 0 a n=some cs):cs.length=n∧(0<n→a.spot=none∧a.block<w.heap.size∧Cells w a cs):=by
 unfold World.cells? at h
 rw [if_pos (Nat.zero_le _)] at h
 have hl:cs.length=n:=by simpa using mapM_some_length h
 refine ⟨hl,fun hn=>?_⟩
 have hg :∀i,i<n→w.cell? (a.add i)=cs[i]?:=fun i hi=>mapM_some_get h i i (by simp [hi])
 have h0:=hg 0 hn
 obtain ⟨v,hv⟩ :∃v,cs[0]?=some v:=⟨cs[0],List.getElem?_eq_getElem (by omega)⟩
 rw [hv] at h0
 have hspot:a.spot=none:=by simpa [Addr.add] using World.cell?_spot h0
 have hlt:a.block<w.heap.size:=by have:=World.block_lt_of_cell? w _ h0;simpa [Addr.add] using this
 refine ⟨hspot,hlt,hspot,fun i v hi=>?_⟩
 have hi':i<n:=by rw [←hl];exact (List.getElem?_eq_some_iff.1 hi).1
 have:=hg i hi'
 rw [hi,Addr.kC7 hspot] at this
 exact this
theorem kAX {base:Addr} {len cap sz n:Nat} {e:TypeId} {elems rest:List (DataW H×List MemPlace)} (hsz:P.cellsOf e=sz) (hpos:0<sz) (hlen:len≤cap) (hel:elems.length=len)
  (he :∀i,i<len→(w.cells? 0 (base.add (i*P.cellsOf e)) (P.cellsOf e)).bind (DataW.trod enc P w 0 (fun _=>true) true n e)=elems[i]?)
  (hr:rest.length=cap-len ∧∀j,j<cap-len→(w.cells? 0 (base.add ((len+j)*P.cellsOf e)) (P.cellsOf e)).bind (DataW.trod enc P w 0 (fun _=>true) true n e)=rest[j]?) :
  ∃css:List (List Value),css.length=len∧SlC anyB w (.slice (some base) len cap) len css.flatten∧(∀c∈css,c.length=sz) ∧∀(i:Nat) (c:List Value),css[i]?=some c →∃y,elems[i]?=some y∧DataW.trod enc P w 0 (fun _=>true) true n e c=some y:=by
 subst hsz
 have hone :∀i,i<len →∃cs y,w.cells? 0 (base.add (i*P.cellsOf e)) (P.cellsOf e)=some cs∧DataW.trod enc P w 0 (fun _=>true) true n e cs=some y∧elems[i]?=some y:=by
  intro i hi
  have h:=he i hi
  have hg:=List.getElem?_eq_getElem (l:=elems) (i:=i) (by omega)
  rw [hg] at h
  obtain ⟨cs,h1,h2⟩:=Option.bind_eq_some_iff.1 h
  exact ⟨cs,_,h1,h2,hg⟩
 have hb:0<cap→base.spot=none∧base.block<w.heap.size:=by
  intro hc
  by_cases h0:0<len
  ·obtain ⟨cs,y,h1,-⟩:=hone 0 h0
   obtain ⟨-,h2⟩:=uV h1
   obtain ⟨q1,q2,-⟩:=h2 hpos
   exact ⟨by simpa [Addr.add] using q1,by simpa [Addr.add] using q2⟩
  ·have h:=hr.2 0 (by omega)
   rw [List.getElem?_eq_getElem (by omega)] at h
   obtain ⟨cs,h1,-⟩:=Option.bind_eq_some_iff.1 h
   have e0:len=0:=by omega
   subst e0
   obtain ⟨-,h2⟩:=uV h1
   obtain ⟨q1,q2,-⟩:=h2 hpos
   exact ⟨by simpa [Addr.add] using q1,by simpa [Addr.add] using q2⟩
 let css:=(List.range len).map fun i=>(w.cells? 0 (base.add (i*P.cellsOf e)) (P.cellsOf e)).getD []
 have hget :∀(i:Nat) (c:List Value),css[i]?=some c→i<len∧w.cells? 0 (base.add (i*P.cellsOf e)) (P.cellsOf e)=some c:=by
  intro i c hc
  have hi:i<len:=by have:=(List.getElem?_eq_some_iff.1 hc).1;simpa [css] using this
  refine ⟨hi,?_⟩
  obtain ⟨cs,y,h1,-⟩:=hone i hi
  simp only [css,List.getElem?_map,List.getElem?_range hi,Option.map_some,h1,Option.getD_some,Option.some.injEq] at hc
  rw [h1,hc]
 have hszs :∀c∈css,c.length=P.cellsOf e:=by
  intro c hc
  obtain ⟨i,hi⟩:=List.getElem?_of_mem hc
  exact (uV (hget i c hi).2).1
 refine ⟨css,by simp [css],⟨some base,cap,rfl,hlen,by simp,fun a ha hc=>?_⟩,hszs,fun i c hi=>?_⟩
 ·simp only [Option.some.injEq] at ha;subst ha
  obtain ⟨h1,h2⟩:=hb hc
  refine ⟨trivial,h2,?_⟩
  obtain ⟨B,o,s⟩:=base
  simp only at h1
  subst h1
  refine Cells.kNV hszs fun i c hi=>?_
  obtain ⟨hil,hcs⟩:=hget i c hi
  obtain ⟨-,h3⟩:=uV hcs
  obtain ⟨-,-,q⟩:=h3 hpos
  rwa [Addr.kK] at q
 ·obtain ⟨hil,hcs⟩:=hget i c hi
  obtain ⟨cs,y,h1,h2,h3⟩:=hone i hil
  rw [h1] at hcs
  simp only [Option.some.injEq] at hcs
  exact ⟨y,h3,by rw [←hcs];exact h2⟩
theorem kIS {t u:TypeId} {n:Nat} {cs:List Value} {x:DataW H×List MemPlace} (ht:P.underlying t=some (.slice u)) (hu:P.underlying u=some (.int .u8)) (hc:P.cellsOf u=1) (h:DataW.trod enc P w 0 (fun _=>true) true n t cs=some x) :
  ∃v l,cs=[v]∧SlC anyB w v l.length (u8s l) ∧∀f fa,Bulk (H:=H) f fa→l.length+1≤f x.1:=by
 rcases DataW.trod_slice ht h with ⟨rfl,rfl⟩|⟨a,len,cap,elems,rest,m,-,rfl,ex,-,hl,-,hel,he,hr,-⟩
 ·exact ⟨_,[],rfl,SlC.nil,fun f fa B=>B.none⟩
 ·obtain ⟨css,k1,k2,k3,k4⟩:=kAX (sz:=1) hc (by omega) hl hel he (hr rfl)
  have key :∀(css:List (List Value)) (es:List (DataW H×List MemPlace)),(∀(i:Nat) (c:List Value),css[i]?=some c →∃y,es[i]?=some y∧DataW.trod enc P w 0 (fun _=>true) true m u c=some y) →∃l:List UInt8,l.length=css.length∧css.flatten=u8s l ∧∀f fa,Bulk (H:=H) f fa→l.length≤fa (es.map (·.1)):=by
   intro css
   induction css with
   | nil=>intro es _;exact ⟨[],rfl,rfl,fun f fa _=>Nat.zero_le _⟩
   | cons c css ih =>
     intro es hh
     obtain ⟨y,h0,hy⟩:=hh 0 c rfl
     obtain ⟨es,rfl⟩ :∃r,es=y::r:=by
      cases es with
      | nil=>simp at h0
      | cons a r=>simp only [List.getElem?_cons_zero,Option.some.injEq] at h0;exact ⟨r,by rw [h0]⟩
     obtain ⟨z,rfl,ey,hw⟩:=DataW.trod_int hu hy
     obtain ⟨l,h1,h2,h3⟩:=ih es fun i x hx=>by have:=hh (i+1) x (by simpa using hx);simpa using this
     obtain ⟨z0,z1⟩:=u8_of hw
     refine ⟨UInt8.ofNat z.toNat::l,by simp [h1],?_,fun f fa B=>by
      have q:=h3 f fa B
      have q0:=B.int .u8 z
      rw [List.map_cons,B.cons,ey,List.length_cons]
      show _≤f (.lit (.int .u8 z))+_
      omega⟩
     have e:((UInt8.ofNat z.toNat).toNat:Int)=z:=by simp;omega
     simp only [List.flatten_cons,h2,u8s,List.map_cons,List.cons_append,List.nil_append]
     rw [e]
  obtain ⟨l,h1,h2,h3⟩:=key css elems k4
  refine ⟨_,l,rfl,?_,fun f fa B=>?_⟩
  ·rw [h1,k1,←h2];exact k2
  ·have q:=h3 f fa B
   rw [ex]
   show _≤f (.slice _ _)
   rw [B.slice]
   omega
theorem u32_of {n:Int} (h:(Lit.int .u32 n).wf=true):0≤n∧n<4294967296:=by
 simp only [Lit.wf,Bool.and_eq_true,decide_eq_true_eq] at h
 have h1:IntKind.u32.min=0:=by rfl
 have h2:IntKind.u32.max=4294967295:=by rfl
 omega
theorem i64_of {n:Int} (h:(Lit.int .i64 n).wf=true):IntKind.i64.wrap n=n:=by
 simp only [Lit.wf,Bool.and_eq_true,decide_eq_true_eq] at h
 have h1:IntKind.i64.min=-9223372036854775808:=by rfl
 have h2:IntKind.i64.max=9223372036854775807:=by rfl
 simp only [IntKind.wrap,IntKind.bits,IntKind.signed];simp;omega
variable {tT ti tS u8 tB tL tU tG tk:TypeId}
theorem uW {fs:Array Field} {l:List (TypeId×Nat)} (h:fs.toList.map (fun f=>(f.type,f.offset))=l) {i:Nat} {t:TypeId} {o:Nat} (hi:l[i]?=some (t,o)) :∃f,fs[i]?=some f∧f.type=t∧f.offset=o:=by
 rw [←h,List.getElem?_map] at hi
 obtain ⟨f,hf,e⟩:=Option.map_eq_some_iff.1 hi
 simp only [Prod.mk.injEq] at e
 exact ⟨f,by simpa using hf,e.1,e.2⟩
theorem tag_of (T:kK4 P tT ti tS u8 tB tL tU tG tk) {n:Nat} {cs:List Value} {x:DataW H×List MemPlace} (h:DataW.trod enc P w 0 (fun _=>true) true n tG cs=some x) :
  ∃(k:Nat) (v:Value) (l:List UInt8),cs=[.int .u32 k,v]∧k<4294967296∧SlC anyB w v l.length (u8s l) ∧∀f fa,Bulk (H:=H) f fa→1+l.length≤f x.1:=by
 obtain ⟨fs,hfs,hl⟩:=T.hG
 obtain ⟨xs,m,-,ex,hlen,hxl,hx⟩:=DataW.trod_struct hfs h
 rw [T.cG] at hlen
 obtain ⟨a,b,rfl⟩ :∃a b,cs=[a,b]:=by match cs,hlen with|[a,b],_=>exact ⟨a,b,rfl⟩
 have hn:xs.length=2:=by rw [hxl,←Array.length_toList,←List.length_map (f:=fun f:Field=>(f.type,f.offset)),hl];rfl
 obtain ⟨f0,g0,g1,g2⟩:=uW hl (i:=0) rfl
 obtain ⟨f1,k0,k1,k2⟩:=uW hl (i:=1) rfl
 have q0:=hx 0 f0 g0
 have q1:=hx 1 f1 k0
 rw [g1,g2,T.ck,List.getElem?_eq_getElem (by omega)] at q0
 rw [k1,k2,T.cS,List.getElem?_eq_getElem (by omega)] at q1
 simp only [List.drop_zero,List.take_succ_cons,List.take_zero,List.drop_succ_cons] at q0 q1
 obtain ⟨z,e0,-,hw⟩:=DataW.trod_int T.hk q0
 obtain ⟨v,l,e1,hs,hb⟩:=kIS T.hS T.h8 T.c8 q1
 simp only [List.cons.injEq,and_true] at e0 e1
 obtain ⟨z0,z1⟩:=u32_of hw
 refine ⟨z.toNat,v,l,?_,by omega,hs,fun f fa B=>?_⟩
 ·rw [e0,e1,Int.toNat_of_nonneg z0]
 ·have q:=hb f fa B
  obtain ⟨a,b,rfl⟩ :∃a b,xs=[a,b]:=by match xs,hn with|[a,b],_=>exact ⟨a,b,rfl⟩
  simp only [List.getElem_cons_succ,List.getElem_cons_zero] at q
  rw [ex]
  show _≤f (.agg _)
  rw [B.agg]
  simp only [List.map_cons,B.cons]
  omega
theorem tree_of (T:kK4 P tT ti tS u8 tB tL tU tG tk) :∀(n:Nat) (cs:List Value) (x:DataW H×List MemPlace),DataW.trod enc P w 0 (fun _=>true) true n tT cs=some x →∃t:TR,RepT anyB w t cs∧t.kok∧t.nok ∧∀f fa,Bulk (H:=H) f fa→t.wt≤f x.1:=by
 intro n
 induction n using Nat.strongRecOn with
 | ind n ih =>
 intro cs x h
 obtain ⟨fs,hfs,hl⟩:=T.hT
 obtain ⟨xs,m,hm,ex,hlen,hxl,hx⟩:=DataW.trod_struct hfs h
 rw [T.cT] at hlen
 obtain ⟨a,b,c,d,e,rfl⟩ :∃a b c d e,cs=[a,b,c,d,e]:=by match cs,hlen with|[a,b,c,d,e],_=>exact ⟨a,b,c,d,e,rfl⟩
 have hn:xs.length=5:=by rw [hxl,←Array.length_toList,←List.length_map (f:=fun f:Field=>(f.type,f.offset)),hl];rfl
 obtain ⟨f0,g0,g1,g2⟩:=uW hl (i:=0) rfl
 obtain ⟨f1,k0,k1,k2⟩:=uW hl (i:=1) rfl
 obtain ⟨f2,m0,m1,m2⟩:=uW hl (i:=2) rfl
 obtain ⟨f3,p0,p1,p2⟩:=uW hl (i:=3) rfl
 obtain ⟨f4,r0,r1,r2⟩:=uW hl (i:=4) rfl
 have q0:=hx 0 f0 g0
 have q1:=hx 1 f1 k0
 have q2:=hx 2 f2 m0
 have q3:=hx 3 f3 p0
 have q4:=hx 4 f4 r0
 rw [g1,g2,T.ci,List.getElem?_eq_getElem (by omega)] at q0
 rw [k1,k2,T.cS,List.getElem?_eq_getElem (by omega)] at q1
 rw [m1,m2,T.cB,List.getElem?_eq_getElem (by omega)] at q2
 rw [p1,p2,T.cL,List.getElem?_eq_getElem (by omega)] at q3
 rw [r1,r2,T.cU,List.getElem?_eq_getElem (by omega)] at q4
 simp only [List.drop_zero,List.take_succ_cons,List.take_zero,List.drop_succ_cons] at q0 q1 q2 q3 q4
 obtain ⟨z,e0,-,hwz⟩:=DataW.trod_int T.hi q0
 obtain ⟨sv,s,e1,hs,hsb⟩:=kIS T.hS T.h8 T.c8 q1
 obtain ⟨nb,e2,-⟩:=DataW.trod_bool T.hB q2
 simp only [List.cons.injEq,and_true] at e0 e1 e2
 -- the tree's own
 have hlist :∃(ls:List TR) (css:List (List Value)),SlC anyB w d ls.length css.flatten∧jN anyB w ls css∧TR.kokL ls∧TR.nokL ls ∧∀f fa,Bulk (H:=H) f fa→TR.wtL ls+1≤f (xs[3]'(by omega)).1:=by
  rcases DataW.trod_slice T.hL q3 with ⟨e3,e4⟩|⟨ad,len,cap,elems,rest,mm,hmm,e3,e4,-,hle,-,hel,he,hr,-⟩
  ·simp only [List.cons.injEq,and_true] at e3
   subst e3
   exact ⟨[],[],SlC.nil,.nil,trivial,trivial,fun f fa B=>by rw [e4];exact B.none⟩
  ·simp only [List.cons.injEq,and_true] at e3
   subst e3
   obtain ⟨css,u1,u2,-,u4⟩:=kAX (sz:=5) T.cT (by omega) hle hel he (hr rfl)
   have key :∀(css:List (List Value)) (es:List (DataW H×List MemPlace)),(∀(i:Nat) (c:List Value),css[i]?=some c →∃y,es[i]?=some y∧DataW.trod enc P w 0 (fun _=>true) true mm tT c=some y) →∃ls:List TR,ls.length=css.length∧jN anyB w ls css∧TR.kokL ls∧TR.nokL ls ∧∀f fa,Bulk (H:=H) f fa→TR.wtL ls≤fa (es.map (·.1)):=by
    intro css
    induction css with
    | nil=>intro es _;exact ⟨[],rfl,.nil,trivial,trivial,fun f fa _=>Nat.zero_le _⟩
    | cons c css ihc =>
      intro es hh
      obtain ⟨y,h0,hy⟩:=hh 0 c rfl
      obtain ⟨es,rfl⟩ :∃r,es=y::r:=by
       cases es with
       | nil=>simp at h0
       | cons a r=>simp only [List.getElem?_cons_zero,Option.some.injEq] at h0;exact ⟨r,by rw [h0]⟩
      obtain ⟨t,ht,hk,hno,hb⟩:=ih mm (by omega) c y hy
      obtain ⟨ls,v1,v2,v3,v5,v4⟩:=ihc es fun i x hx=>by have:=hh (i+1) x (by simpa using hx);simpa using this
      exact ⟨t::ls,by simp [v1],.cons ht v2,⟨hk,v3⟩,⟨hno,v5⟩,fun f fa B=>by
       have q1:=hb f fa B
       have q2:=v4 f fa B
       rw [List.map_cons,B.cons]
       simp only [TR.wtL]
       omega⟩
   obtain ⟨ls,v1,v2,v3,v5,v4⟩:=key css elems u4
   exact ⟨ls,css,by rw [v1,u1];exact u2,v2,v3,v5,fun f fa B=>by
    have q:=v4 f fa B
    rw [e4]
    show _≤f (.slice _ _)
    rw [B.slice]
    omega⟩
 have htags :∃(u:List (Nat×List UInt8)) (uss:List (List Value)),SlC anyB w e u.length uss.flatten∧RepU anyB w u uss∧(∀p∈u,p.1<4294967296) ∧∀f fa,Bulk (H:=H) f fa→wtU u+1≤f (xs[4]'(by omega)).1:=by
  rcases DataW.trod_slice T.hU q4 with ⟨e3,e4⟩|⟨ad,len,cap,elems,rest,mm,hmm,e3,e4,-,hle,-,hel,he,hr,-⟩
  ·simp only [List.cons.injEq,and_true] at e3
   subst e3
   exact ⟨[],[],SlC.nil,.nil,by simp,fun f fa B=>by rw [e4];exact B.none⟩
  ·simp only [List.cons.injEq,and_true] at e3
   subst e3
   obtain ⟨css,u1,u2,-,u4⟩:=kAX (sz:=2) T.cG (by omega) hle hel he (hr rfl)
   have key :∀(css:List (List Value)) (es:List (DataW H×List MemPlace)),(∀(i:Nat) (c:List Value),css[i]?=some c →∃y,es[i]?=some y∧DataW.trod enc P w 0 (fun _=>true) true mm tG c=some y) →∃u:List (Nat×List UInt8),u.length=css.length∧RepU anyB w u css∧(∀p∈u,p.1<4294967296) ∧∀f fa,Bulk (H:=H) f fa→wtU u≤fa (es.map (·.1)):=by
    intro css
    induction css with
    | nil=>intro es _;exact ⟨[],rfl,.nil,by simp,fun f fa _=>Nat.zero_le _⟩
    | cons c css ihc =>
      intro es hh
      obtain ⟨y,h0,hy⟩:=hh 0 c rfl
      obtain ⟨es,rfl⟩ :∃r,es=y::r:=by
       cases es with
       | nil=>simp at h0
       | cons a r=>simp only [List.getElem?_cons_zero,Option.some.injEq] at h0;exact ⟨r,by rw [h0]⟩
      obtain ⟨k,v,l,rfl,hk,hv,hb⟩:=tag_of T hy
      obtain ⟨u,v1,v2,v3,v4⟩:=ihc es fun i x hx=>by have:=hh (i+1) x (by simpa using hx);simpa using this
      refine ⟨(k,l)::u,by simp [v1],.cons hv v2,fun p hp=>?_,fun f fa B=>?_⟩
      ·rcases List.mem_cons.1 hp with rfl|hp
       ·exact hk
       ·exact v3 p hp
      ·have q1:=hb f fa B
       have q2:=v4 f fa B
       rw [List.map_cons,B.cons]
       simp only [wtU]
       omega
   obtain ⟨u,v1,v2,v3,v4⟩:=key css elems u4
   exact ⟨u,css,by rw [v1,u1];exact u2,v2,v3,fun f fa B=>by
    have q:=v4 f fa B
    rw [e4]
    show _≤f (.slice _ _)
    rw [B.slice]
    omega⟩
 obtain ⟨ls,css,l1,l2,l3,l5,l4⟩:=hlist
 obtain ⟨u,uss,w1,w2,w3,w4⟩:=htags
 subst e0;subst e1;subst e2
 refine ⟨.mk z s nb ls u,.mk hs l1 l2 w1 w2,⟨w3,l3⟩,⟨i64_of hwz,l5⟩,fun f fa B=>?_⟩
 have a1:=hsb f fa B
 have a2:=l4 f fa B
 have a3:=w4 f fa B
 obtain ⟨x0,x1,x2,x3,x4,rfl⟩ :∃a b c d e,xs=[a,b,c,d,e]:=by match xs,hn with|[a,b,c,d,e],_=>exact ⟨a,b,c,d,e,rfl⟩
 simp only [List.getElem_cons_succ,List.getElem_cons_zero] at a1 a2 a3
 rw [ex]
 show _≤f (.agg _)
 rw [B.agg]
 simp only [List.map_cons,B.cons,TR.wt]
 omega
theorem open_tree (T:kK4 P tT ti tS u8 tB tL tU tG tk) (hl:laidOutB P=true) (hrd:P.readableRec tT=true) (hrow:tT<P.types.size) {v:Value} {d:DataW H} {p:List MemPlace} {base:Nat} (hv:Value.okWide P w .any base tT v)
  (h:DataW.Trod enc P w 0 (fun _=>true) true tT v d p) :
  ∃(t:TR) (ts:List Value),v=.agg ts.toArray∧RepT anyB w t ts∧t.kok∧t.nok∧(∀f fa,Bulk (H:=H) f fa→t.wt≤f d) ∧∀W',Mod [] w W'→DataW.Trod enc P W' 0 (fun b=>decide (b<w.heap.size)) true tT v d p:=by
 obtain ⟨fs,hfs,-⟩:=T.hT
 simp only [Value.okWide,hfs] at hv
 obtain ⟨cs,rfl,-,-⟩:=hv
 obtain ⟨n,hn⟩:=id h
 obtain ⟨t,ht,hk,hno,hb⟩:=tree_of T n _ _ hn
 have ec:(Value.agg cs).cells.toList=cs.toList:=rfl
 rw [ec] at ht
 have hlt :∀q∈p,q.block<w.heap.size:=fun q hq=>DataW.trod_lt n tT _ _ hn q hq
 refine ⟨t,cs.toList,by simp,ht,hk,hno,hb,fun W' hm=>?_⟩
 refine Go.WideElems.Trod_stays hl hrd hrow h (fun q hq=>?_) fun q hq=>by simpa using hlt q hq
 have hq:=hlt q hq
 cases q with
 | cell b off=>exact World.cell?_of_block (hm.block b hq (by simp))
 | map b=>exact hm.block b hq (by simp)
end
end Go.Msk
namespace Go.Msk
open Go.RowKit
set_option maxRecDepth 100000
inductive FX where
 | mk (ps:List (Nat×Int)) (f:Option FuncId) (subs:List FX)
 deriving Inhabited
def xM (a:Nat→Int):List (Nat×Int)→Nat→Int
 | []=>a
 | (o,n)::r=>xM (fun j=>if j=o then n else a j) r
def vU (a:Nat→Int) (sv:Value):List Value:=[.int .i64 (a 0),.int .i64 (a 1),.int .i64 (a 2),.int .i64 (a 3),.int .i64 (a 4),.int .i64 (a 5),.int .i64 (a 6),sv]
mutual
def FX.fd:FX→FD
 | .mk ps _ subs=>.mk (xM (fun _=>0) ps 0) (xM (fun _=>0) ps 1) (xM (fun _=>0) ps 2) (xM (fun _=>0) ps 3) (xM (fun _=>0) ps 4) (xM (fun _=>0) ps 5) (xM (fun _=>0) ps 6) (FX.fds subs)
def FX.fds:List FX→List FD
 | []=>[]
 | x::l=>x.fd::FX.fds l
end
theorem FX.uL :∀l:List FX,(FX.fds l).length=l.length
 | []=>rfl
 | x::l=>by simp [FX.fds,FX.uL l]
def FX.cnt:FX→Nat
 | .mk _ none _=>1
 | .mk _ (some _) _=>2
def FX.slot (t:Nat) (x:FX):Nat:=t+x.cnt-1
def FX.ops (t:Nat):FX→List RI
 | .mk ps none _=>[⟨some t,.build fzero (ps.map fun p=>(p.1,1,.const (.int .i64 p.2))),none⟩]
 | .mk ps (some f) _=>[⟨some t,.call f [],none⟩,⟨some (t+1),.build fzero (ps.map (fun p=>(p.1,1,Operand.const (.int .i64 p.2)))++[(7,1,.tmp t)]),none⟩]
def FX.gen (t:Nat):List FX→List RI
 | []=>[]
 | x::l=>x.ops t++FX.gen (t+x.cnt) l
def FX.cnts:List FX→Nat
 | []=>0
 | x::l=>x.cnt+FX.cnts l
def FX.prts (o t:Nat):List FX→List (Nat×Nat×Operand)
 | []=>[]
 | x::l=>(o,8,.tmp (x.slot t))::FX.prts (o+8) (t+x.cnt) l
def FX.kNW (l:List FX):IC×List RV×Nat :=
 (.seq (.blk [⟨some 0,.mv (.const (.slice none 0 0)),none⟩])
  (.seq (.blk (FX.gen 1 l++[⟨some (1+FX.cnts l),.bslice l.length fzero (FX.prts 0 1 l),none⟩,⟨some 0,.mv (.tmp (1+FX.cnts l)),none⟩])) .ret),[.tmp 0],2+FX.cnts l)
def FX.kFT (l:List FX) (flex:Int):IC×List RV×Nat :=
 (.seq (.blk [⟨some 0,.alloc [.slice none 0 0,.int .i64 0],none⟩])
  (.seq (.blk (FX.gen 1 l++[⟨some (1+FX.cnts l),.bslice l.length fzero (FX.prts 0 1 l),none⟩,
   ⟨some (2+FX.cnts l),.build [.slice none 0 0,.int .i64 0] [(1,1,.const (.int .i64 flex)),(0,1,.tmp (1+FX.cnts l))],none⟩,⟨none,.st (.tmp 0) 2 (.tmp (2+FX.cnts l)),none⟩])) .ret),[.cells 0 2],3+FX.cnts l)
mutual
/-- What is asked of the functions called, and of the places. -/
def FX.Ok (P:Program):FX→Prop
 | .mk ps f subs=>(ps.all fun p=>Nat.blt p.1 7)=true∧(match f with|some f=>kH P f=some (FX.kNW subs)|none=>subs=[])∧FX.OkL P subs
def FX.OkL (P:Program):List FX→Prop
 | []=>True
 | x::l=>x.Ok P∧FX.OkL P l
end
theorem kJ8 (sv:Value) (σ:Sl) :∀(ps:List (Nat×Int)) (a:Nat→Int) (q:List (Nat×Nat×Value)),(ps.all fun p=>Nat.blt p.1 7)=true →
  zW (vU a sv) ((ps.map fun p=>((p.1,1,Operand.const (.int .i64 p.2)):Nat×Nat×Operand)).map (fun p=>(p.1,p.2.1,ev σ p.2.2))++q)=zW (vU (xM a ps) sv) q
 | [],a,q,_=>rfl
 | (o,n)::ps,a,q,h=>by
   simp only [List.all_cons,Bool.and_eq_true] at h
   have ho:o<7:=Nat.lt_of_succ_le (Nat.le_of_ble_eq_true h.1)
   simp only [List.map_cons,List.cons_append,zW,ev,xM]
   rw [if_pos ⟨rfl,by simp [vU];omega⟩]
   have e:splice (vU a sv) o (Value.int .i64 n).cells.toList=vU (fun j=>if j=o then n else a j) sv:=by
    rcases (by omega:o=0∨o=1∨o=2∨o=3∨o=4∨o=5∨o=6) with rfl|rfl|rfl|rfl|rfl|rfl|rfl<;>simp [splice,vU,Value.cells]
   rw [e]
   exact kJ8 sv σ ps _ q h.2
theorem kL8 :∀(css:List (List Value)) (pre:List Value),(∀c∈css,c.length=8) →
  zW (pre++zrep css.length fzero) ((css.zipIdx 0).map fun p=>(pre.length+p.2*8,8,Value.agg p.1.toArray))=some (pre++css.flatten):=by
 intro css
 have gen :∀(css:List (List Value)) (pre:List Value) (k:Nat) (o:Nat),(∀c∈css,c.length=8)→o+k*8=pre.length →
   zW (pre++zrep css.length fzero) ((css.zipIdx k).map fun p=>(o+p.2*8,8,Value.agg p.1.toArray))=some (pre++css.flatten):=by
  intro css
  induction css with
  | nil=>intro pre k o _ _;simp [zW,zrep]
  | cons c css ih =>
    intro pre k o h ho
    have hc:=h c List.mem_cons_self
    simp only [List.zipIdx_cons,List.map_cons,zW,List.length_cons]
    have ez:zrep (css.length+1) fzero=fzero++zrep css.length fzero:=by simp [zrep,List.replicate_succ]
    rw [ez,if_pos ⟨by simpa [Value.cells] using hc,by simp [fzero];omega⟩]
    have:splice (pre++(fzero++zrep css.length fzero)) (o+k*8) (Value.agg c.toArray).cells.toList=(pre++c)++zrep css.length fzero:=by
     have e:=jY (pre:=pre) (old:=fzero) (post:=zrep css.length fzero) (vs:=c) ho.symm (by rw [hc];rfl)
     simpa [Value.cells] using e
    rw [this,ih (pre++c) (k+1) o (fun x hx=>h x (List.mem_cons_of_mem _ hx)) (by simp;omega)]
    simp
 intro pre h
 exact gen css pre 0 pre.length h (by simp)
abbrev kEV (N:Nat):Nat→Prop:=fun b=>N≤b
theorem SlC.fresh {N M:Nat} {w:World} {v:Value} {n:Nat} {cs:List Value} (h:SlC (kEV M) w v n cs) (hN:N≤M):SlC (kEV N) w v n cs:=h.mod (Mod.refl [] w) (by simp) fun _ _ h=>Nat.le_trans hN h
theorem jU.fresh {N M:Nat} {w:World} {l:List FD} {cs:List (List Value)} (h:jU (kEV M) w l cs) (hN:N≤M):jU (kEV N) w l cs:=h.mod (Mod.refl [] w) (by simp) fun _ _ h=>Nat.le_trans hN h
theorem SlC.hold {ok:Nat→Prop} {w w':World} {v:Value} {n:Nat} {cs:List Value} (h:SlC ok w v n cs) (hm:Mod [] w w'):SlC ok w' v n cs:=h.mod hm (by simp) fun _ _ h=>h
theorem jU.hold {ok:Nat→Prop} {w w':World} {l:List FD} {cs:List (List Value)} (h:jU ok w l cs) (hm:Mod [] w w'):jU ok w' l cs:=h.mod hm (by simp) fun _ _ h=>h
section
variable {P:Program}
attribute [local simp] gOk updo upd ev RK.val? kL kM Addr.kK qE Value.cells undef
def kEW (N:Nat) (w:World) (σ:Sl):List FX→Nat→List (List Value)→Prop
 | [],_,css=>css=[]
 | x::l,t,css =>∃cs r,css=cs::r∧σ (x.slot t)=.agg cs.toArray∧RepF (kEV N) w x.fd cs∧kEW N w σ l (t+x.cnt) r
theorem kEW.rep {N:Nat} {w:World} {σ:Sl} :∀{l:List FX} {t:Nat} {css:List (List Value)},kEW N w σ l t css→jU (kEV N) w (FX.fds l) css
 | [],_,_,h=>by subst h;simp [FX.fds];exact .nil
 | x::l,t,_,⟨cs,r,e1,e2,e3,e4⟩=>by subst e1;simp only [FX.fds];exact .cons e3 e4.rep
theorem kEW.prts {N:Nat} {w:World} {σ:Sl} :∀{l:List FX} {t o k:Nat} {css:List (List Value)},kEW N w σ l t css →
  (FX.prts (o+k*8) t l).map (fun p=>(p.1,p.2.1,ev σ p.2.2))=(css.zipIdx k).map fun p=>(o+p.2*8,8,Value.agg p.1.toArray)
 | [],_,_,_,_,h=>by subst h;rfl
 | x::l,t,o,k,_,⟨cs,r,e1,e2,e3,e4⟩=>by
   subst e1
   simp only [FX.prts,List.map_cons,List.zipIdx_cons,ev,e2]
   congr 1
   have:=e4.prts (o:=o) (k:=k+1)
   rw [show o+k*8+8=o+(k+1)*8 by omega]
   exact this
def SubC (P:Program) (f:FuncId) (l:List FX):Prop :=
 ∀w:World,Calls P f #[] w fun e w' =>∃v css,e=.returned v∧SlC (kEV w.heap.size) w' v (FX.fds l).length css.flatten∧jU (kEV w.heap.size) w' (FX.fds l) css∧Mod [] w w'
def FX.kP3 (P:Program):List FX→Prop
 | []=>True
 | .mk ps f subs::l=>(ps.all fun p=>Nat.blt p.1 7)=true∧(match f with|some f=>SubC P f subs|none=>subs=[])∧FX.kP3 P l
theorem FX.kK5 (N:Nat) :∀(l:List FX) (t:Nat) (σ:Sl) (w:World) (rest:List RI) (Q:Sl→World→Prop),FX.kP3 P l→1≤t→N≤w.heap.size →
  (∀σ' w' css,(∀s,s<t→σ' s=σ s)→Mod [] w w'→kEW N w' σ' l t css→wpR P rest σ' w' Q)→wpR P (FX.gen t l++rest) σ w Q
 | [],t,σ,w,rest,Q,_,_,_,hQ=>hQ σ w [] (fun _ _=>rfl) (Mod.refl _ _) rfl
 | .mk ps f subs::l,t,σ,w,rest,Q,hs,ht,hN,hQ=>by
   obtain ⟨hps,hf,hl⟩:=hs
   simp only [FX.gen,List.append_assoc]
   cases f with
   | none =>
     simp only at hf
     subst hf
     simp only [FX.ops,List.cons_append,List.nil_append,FX.cnt]
     have hfill:=kJ8 (.slice none 0 0) σ ps (fun _=>0) [] hps
     simp only [List.append_nil] at hfill
     refine go1 (v:=.agg (vU (xM (fun _=>0) ps) (.slice none 0 0)).toArray) rfl (by
      simp only [RK.val?]
      rw [show fzero=vU (fun _=>0) (.slice none 0 0) from rfl,hfill];rfl) ?_
     refine FX.kK5 N l (t+1) _ w rest Q hl (by omega) hN fun σ' w' css hfr hm hsl=>?_
     refine hQ σ' w' (vU (xM (fun _=>0) ps) (.slice none 0 0)::css) (fun s h=>by rw [hfr s (by omega)];simp only [updo];exact upd_ne _ _ (by omega)) hm ⟨_,_,rfl,?_,?_,hsl⟩
     ·simp only [FX.slot,FX.cnt]
      rw [show t+1-1=t by omega,hfr t (by omega)];simp only [updo];exact upd_same _ _ _
     ·rw [FX.fd];simp only [FX.fds];exact .mk (css:=[]) SlC.nil .nil
   | some f =>
     simp only at hf
     simp only [FX.ops,List.cons_append,List.nil_append,FX.cnt]
     refine qF rfl (vs:=[]) rfl (hf w) ?_
     rintro e w1 ⟨v,css1,rfl,h1,h2,hm1⟩
     refine ⟨v,rfl,?_⟩
     have hv1:v.cells.size=1∧v.cells.toList=[v]:=by obtain ⟨b,c,rfl⟩:=h1.shape;exact ⟨rfl,rfl⟩
     have hfill:=kJ8 (.slice none 0 0) (upd σ t v) ps (fun _=>0) [(7,1,v)] hps
     refine go1 (v:=.agg (vU (xM (fun _=>0) ps) v).toArray) rfl (by
      simp only [RK.val?,List.map_append,List.map_cons,List.map_nil,updo]
      rw [show ev (upd σ t v) (.tmp t)=v from upd_same _ _ _,show fzero=vU (fun _=>0) (.slice none 0 0) from rfl,hfill]
      simp only [zW]
      rw [if_pos ⟨hv1.1,by simp [vU]⟩,hv1.2]
      simp [splice,vU]) ?_
     refine FX.kK5 N l (t+2) _ w1 rest Q hl (by omega) (Nat.le_trans hN hm1.size) fun σ' w' css hfr hm hsl=>?_
     refine hQ σ' w' (vU (xM (fun _=>0) ps) v::css) (fun s h=>by rw [hfr s (by omega)];simp only [updo,upd];rw [if_neg (by omega),if_neg (by omega)]) (hm1.trans hm) ⟨_,_,rfl,?_,?_,hsl⟩
     ·simp only [FX.slot,FX.cnt]
      rw [show t+2-1=t+1 by omega,hfr (t+1) (by omega)];simp only [updo];exact upd_same _ _ _
     ·rw [FX.fd];exact .mk ((h1.fresh hN).hold hm) ((h2.fresh hN).hold hm)
theorem FX.kQU {N:Nat} {l:List FX} {css:List (List Value)} {σ:Sl} {w:World} {d:Nat} {rest:List RI} {Q:Sl→World→Prop} (hs:kEW N w σ l 1 css) (hN:N≤w.heap.size)
  (h :∀w',SlC (kEV N) w' (.slice (some ⟨w.heap.size,0,none⟩) l.length l.length) (FX.fds l).length css.flatten→jU (kEV N) w' (FX.fds l) css→Mod [] w w'→wpR P rest (upd σ d (.slice (some ⟨w.heap.size,0,none⟩) l.length l.length)) w' Q) :
  wpR P (⟨some d,.bslice l.length fzero (FX.prts 0 1 l),none⟩::rest) σ w Q:=by
 refine kX ?_
 have hrep:=hs.rep
 have hlen:l.length=css.length:=by rw [←FX.uL,hrep.length]
 have e1:=hs.prts (o:=0) (k:=0)
 have e2:=kL8 css [] hrep.eight
 simp only [List.nil_append,List.length_nil,Nat.zero_add,Nat.zero_mul] at e1 e2
 simp only [RK.run,hlen]
 rw [e1,e2]
 intro T
 have hb:=Blk.new w css.flatten T
 have hm:Mod [] w (w.alloc (.cells css.flatten.toArray T)):=Mod.alloc _ _ _
 have hsl:SlC (kEV N) (w.alloc (.cells css.flatten.toArray T)) (.slice (some ⟨w.heap.size,0,none⟩) l.length l.length) (FX.fds l).length css.flatten :=
  ⟨_,_,by rw [FX.uL],by rw [FX.uL];exact Nat.le_refl _,fun h=>by simp at h,fun a ha _=>by
   simp only [Option.some.injEq] at ha;subst ha
   exact ⟨hN,hb.lt,hb.cells⟩⟩
 have:=h _ hsl (hrep.hold hm) hm
 rw [hlen] at this
 exact this
theorem kP4 (hm:P.follows .mixedOrders=true) {f:FuncId} {l:List FX} (h:kH P f=some (FX.kNW l)) (hs:FX.kP3 P l):SubC P f l:=by
 intro w
 unfold FX.kNW at h
 refine kT (args:=[]) h hm (by simp) ?_
 clear h
 rw [wpC_seq,kD]
 refine go1 rfl rfl (kE ?_)
 rw [wpC_seq,kD]
 refine FX.kK5 w.heap.size l 1 _ w _ _ hs (Nat.le_refl _) (Nat.le_refl _) fun σ1 w1 css hfr hm1 hsl=>?_
 refine FX.kQU hsl hm1.size fun w2 h1 h2 hm2=>?_
 refine go1 (v:=.slice (some ⟨w1.heap.size,0,none⟩) l.length l.length) rfl (by simp) (kE ?_)
 exact ret1 (v:=.slice (some ⟨w1.heap.size,0,none⟩) l.length l.length) (by simp) ⟨_,css,rfl,h1,h2,hm1.trans hm2⟩
mutual
theorem FX.okSub (hm:P.follows .mixedOrders=true) :∀x:FX,x.Ok P→(match x with|.mk ps f subs=>(ps.all fun p=>Nat.blt p.1 7)=true∧(match f with|some f=>SubC P f subs|none=>subs=[]))
 | .mk ps f subs,h=>by
   simp only [FX.Ok] at h
   refine ⟨h.1,?_⟩
   cases f with
   | none=>exact h.2.1
   | some f=>exact kP4 hm h.2.1 (FX.kNX hm subs h.2.2)
theorem FX.kNX (hm:P.follows .mixedOrders=true) :∀l:List FX,FX.OkL P l→FX.kP3 P l
 | [],_=>trivial
 | .mk ps f subs::l,h=>by
   simp only [FX.OkL] at h
   have h1:=FX.okSub hm (.mk ps f subs) h.1
   exact ⟨h1.1,h1.2,FX.kNX hm l h.2⟩
end
theorem kP5 (hm:P.follows .mixedOrders=true) {f:FuncId} {l:List FX} {flex:Int} (h:kH P f=some (FX.kFT l flex)) (hs:FX.OkL P l) {w:World} :
  Calls P f #[] w fun e w' =>∃cs,e=.returned (.agg cs.toArray)∧RepM anyB w' ⟨FX.fds l,flex⟩ cs∧Mod [] w w':=by
 unfold FX.kFT at h
 refine kT (args:=[]) h hm (by simp) ?_
 clear h
 rw [wpC_seq,kD]
 refine jI fun w0 hb0 hm0=>kE ?_
 rw [wpC_seq,kD]
 refine FX.kK5 w0.heap.size l 1 _ w0 _ _ (FX.kNX hm l hs) (Nat.le_refl _) (Nat.le_refl _) fun σ1 w1 css hfr hm1 hsl=>?_
 refine FX.kQU hsl hm1.size fun w2 h1 h2 hm2=>?_
 refine go1 (v:=.agg #[.slice (some ⟨w1.heap.size,0,none⟩) l.length l.length,.int .i64 flex]) rfl (by
  simp only [RK.val?,List.map_cons,List.map_nil,ev,upd_same,zW]
  simp [splice,Value.cells]) ?_
 have hb2:=hb0.mod (hm1.trans hm2) (by simp)
 refine goSt (b:=w.heap.size) (v:=.agg #[.slice (some ⟨w1.heap.size,0,none⟩) l.length l.length,.int .i64 flex]) ?_ (by simp) hb2 rfl rfl (by simp [Value.cells,Value.oneCell']) fun w3 hb3 hm3=>?_
 ·simp only [ev,updo,upd]
  rw [if_neg (by omega),if_neg (by omega),hfr 0 (by omega)]
  simp
 have hm23:Mod [] w w3:=Mod.drop (b:=w.heap.size) (S:=[]) (((hm0.trans hm1).trans hm2).nil.trans hm3) (Nat.le_refl _)
 refine kE (retN (cs:=[.slice (some ⟨w1.heap.size,0,none⟩) l.length l.length,.int .i64 flex]) (b:=w.heap.size) ?_ (by simpa using hb3) rfl ⟨_,rfl,?_,hm23⟩)
 ·simp only [updo,upd]
  rw [if_neg (by omega),if_neg (by omega),hfr 0 (by omega)]
  simp
 ·have hlt:=hb0.lt
  exact .mk (h1.mod hm3 (by simp;omega) fun _ _ _=>trivial) (h2.mod hm3 (by simp;omega) fun _ _ _=>trivial)
end
end Go.Msk
namespace Go.Msk
open Go.RowKit
set_option maxRecDepth 100000
section
variable {flex:Int}
theorem i16_of {ver:Int} {most:Nat} (h0:0≤ver) (h1:ver≤most) (hm:most<32768):IntKind.i16.wrap ver=ver:=by
 simp only [IntKind.wrap,IntKind.bits,IntKind.signed];simp;omega
end
def kIT (t off:Nat):List DI :=
 [nd ⟨some t,.fad (.tmp 3) 3,none⟩,nd ⟨some (t+1),.ld (.tmp t),none⟩,nd ⟨some (t+2),.mv (.tmp 0),none⟩,nd ⟨some (t+3),.nilc (.tmp (t+2)),none⟩,nd ⟨some (t+4),.fad (.tmp (t+3)) off,none⟩]
def subF (f:FuncId) (i t off:Nat):IC :=
 .drw (kIT t off++[⟨⟨some (t+5),.call f [.tmp (t+4)],none⟩,true,[]⟩,⟨⟨some (t+6),.iad (.tmp (t+1)) (.const (.int .i64 i)) 5,none⟩,false,[5]⟩])
  [⟨none,.st (.tmp (t+6)) 5 (.tmp (t+5)),none⟩]
def uidF (i t off:Nat):IC :=
 .drw (kIT t off++[nd ⟨some (t+5),.slicea (.tmp (t+4)) 16,none⟩,⟨⟨some (t+6),.append (.const (.slice none 0 0)) (.tmp (t+5)) 1 1,none⟩,true,[]⟩,⟨⟨some (t+7),.build tzero [(1,1,.tmp (t+6))],none⟩,false,[6]⟩,
   ⟨⟨some (t+8),.iad (.tmp (t+1)) (.const (.int .i64 i)) 5,none⟩,false,[6]⟩])
  [⟨none,.st (.tmp (t+8)) 5 (.tmp (t+7)),none⟩]
section
variable {P:Program}
theorem kEX {t off Tb Lb n B base:Nat} {σ:Sl} {w:World} {r l:List DI} {Φ:Nat→Value→World→Prop} {E:Sl→Prop} (ht:4≤t)
  (h0:σ 0=.pointer (some ⟨B,base,none⟩)) (h3:σ 3=.pointer (some ⟨Tb,0,none⟩)) (c3:w.cell? ⟨Tb,3,none⟩=some (.slice (some ⟨Lb,0,none⟩) n n))
  (h :∀σ',Ag t σ σ'→σ' (t+1)=.slice (some ⟨Lb,0,none⟩) n n→σ' (t+4)=.pointer (some ⟨B,base+off,none⟩)→j4 P l Φ w E 5 r σ'):j4 P l Φ w E 0 (kIT t off++r) σ:=by
 simp only [kIT,nd,List.cons_append,List.nil_append]
 refine qQ (v:=.pointer (some ⟨Tb,3,none⟩)) (by simp only [RK.val?,ev,h3,Addr.kK,Nat.zero_add]) ?_
 refine qQ (v:=.slice (some ⟨Lb,0,none⟩) n n) (by simp only [RK.val?,ev,updo,upd_same,c3]) ?_
 refine qQ (v:=.pointer (some ⟨B,base,none⟩)) (by simp only [RK.val?,ev,updo,upd,show (0:Nat)≠t by omega,show (0:Nat)≠t+1 by omega,if_false,h0]) ?_
 refine qQ (v:=.pointer (some ⟨B,base,none⟩)) (by simp only [RK.val?,ev,updo,upd_same]) ?_
 refine qQ (v:=.pointer (some ⟨B,base+off,none⟩)) (by simp only [RK.val?,ev,updo,upd_same,Addr.kK]) ?_
 refine h _ (fun j hj=>?_) ?_ ?_
 ·simp only [updo,upd,show j≠t by omega,show j≠t+1 by omega,show j≠t+2 by omega,show j≠t+3 by omega,show j≠t+4 by omega,if_false]
 ·simp only [updo,upd,show t+1≠t+4 by omega,show t+1≠t+3 by omega,show t+1≠t+2 by omega,if_false,if_true]
 ·simp only [updo,upd_same]
theorem kNY {i t Tb Lb n:Nat} {pre post:List Value} {tr:TR} {σ:Sl} {w w1:World} {cs:List Value} {Q:Exit→Sl→World→Prop} {x y:Nat} {σ1:Sl} (hw:TW w Tb Lb n (pre++(tzero++post))) (hpre:pre.length=i*5)
  (hm:Mod [] w w1) (hrep:RepT (fun b=>w.heap.size≤b) w1 tr cs) (ha:Ag t σ σ1) (hx:σ1 x=.pointer (some ⟨Lb,i*5,none⟩)) (hy:σ1 y=.agg cs.toArray)
  (hQ :∀σ' w' cs,Ag t σ σ'→Mod [Lb] w w'→RepT (fun b=>w.heap.size≤b) w' tr cs→TW w' Tb Lb n (pre++(cs++post))→Q .normal σ' w'):wpR P [⟨none,.st (.tmp x) 5 (.tmp y),none⟩] σ1 w1 (Q .normal):=by
 have hlb1:Blk w1 Lb (pre++(tzero++post)):=hw.lb.mod hm (by simp)
 have h5:=hrep.five
 have hput:Mod [Lb] w1 (putCells w1 ⟨Lb,i*5,none⟩ 0 cs):=Mod.put (by simp)
 have ec:(Value.agg cs.toArray).cells=cs.toArray:=rfl
 refine kX ?_
 simp only [RK.run,ev,hx,hy,ec]
 refine ⟨by simp [h5],qL hlb1 (by simp [tzero];omega) (by simpa using hrep.oneCell),?_⟩
 simp only [wpR]
 refine hQ _ _ cs (fun j hj=>ha j hj) (hm.nil.trans hput) (hrep.mod hput (fun b hb=>?_) fun _ _ h=>h) ⟨?_,?_,hw.ne⟩
 ·simp only [List.mem_singleton] at hb;subst hb;have:=hw.lb.lt;omega
 ·exact (hw.tb.mod hm (by simp)).mod hput (by simpa using hw.ne)
 ·have:=hlb1.put (o:=i*5) (vs:=cs) (by simp [tzero];omega)
  rwa [jY hpre (by simp [h5,tzero])] at this
theorem subF_wp {f:FuncId} {T:List GV→Prop} (hf:kPJ P f T) {i t off Tb Lb n B base:Nat} {O:List Nat} {pre post:List Value} {gl:List GV} {css:List (List Value)} {σ:Sl} {w:World} {Q:Exit→Sl→World→Prop} (ht:4≤t)
  (h0:σ 0=.pointer (some ⟨B,base,none⟩)) (h3:σ 3=.pointer (some ⟨Tb,0,none⟩)) (hw:TW w Tb Lb n (pre++(tzero++post))) (hpre:pre.length=i*5) (hi:i<n)
  (hg:T gl) (hr:RepL O w gl css) (hc:Cells w ⟨B,base+off,none⟩ css.flatten)
  (hQ :∀σ' w' cs,Ag t σ σ'→Mod [Lb] w w'→RepT (fun b=>w.heap.size≤b) w' (GV.rcd gl).told cs→TW w' Tb Lb n (pre++(cs++post))→Q .normal σ' w'):wpC P (subF f i t off) Q σ w:=by
 have c3':w.drew.cell? ⟨Tb,3,none⟩=some (.slice (some ⟨Lb,0,none⟩) n n):=hw.tb.cell 3
 unfold subF
 simp only [wpC]
 refine zM (fun _ v w1 =>∃cs,v=.agg cs.toArray∧RepT (fun b=>w.heap.size≤b) w1 (GV.rcd gl).told cs) (fun _ v w1 w2 h hm=>?_) (kEX ht h0 h3 c3' fun σ1 a1 s1 s4=>?_)
 ·obtain ⟨cs,h1,h2⟩:=h
  exact ⟨cs,h1,h2.mod hm (by simp) fun _ _ h=>h⟩
 refine wL (fun w1 hm1 _=>?_) fun u hu=>?_
 ·simp only [RK.run,ev,s4,List.map_cons,List.map_nil]
  have hm1':Mod [] w w1:=(Mod.drew _ _).trans hm1
  refine (hf O w1 B (base+off) gl css hg (hr.fresh hm1' (by simp) (fun x hx=>.inl hx)) (hc.mod hm1' (.inr (by simp)))).mono ?_
  rintro e w2 ⟨cs,rfl,hrep,hm2⟩
  exact ⟨_,rfl,hm2,cs,rfl,hrep.mod (Mod.refl [] _) (by simp) fun b _ hb=>Nat.le_trans hm1'.size hb⟩
 refine qQ (v:=.pointer (some ⟨Lb,i*5,none⟩)) (by
   simp only [RK.val?,ev,updo,upd,show t+1≠t+5 by omega,if_false,s1]
   rw [if_pos (by omega)];simp [Addr.kK]) ?_
 simp only [j4]
 intro w1 hm1 hkn
 have h6:=hkn 5 (by simp [kIT]) ⟨⟨some (t+5),.call f [.tmp (t+4)],none⟩,true,[]⟩ (by simp [kIT]) rfl rfl (t+5) rfl
 obtain ⟨cs,e1,h6⟩:=h6
 refine kNY hw hpre ((Mod.drew [] w).trans hm1) h6 (fun j hj=>?_) (by simp only [updo,upd_same]) e1 hQ
 simp only [updo,upd,show j≠t+6 by omega,show j≠t+5 by omega,if_false]
 exact a1 j hj
theorem uidF_wp {i t off Tb Lb n B base:Nat} {pre post:List Value} {l:List UInt8} {σ:Sl} {w:World} {Q:Exit→Sl→World→Prop} (ht:4≤t)
  (h0:σ 0=.pointer (some ⟨B,base,none⟩)) (h3:σ 3=.pointer (some ⟨Tb,0,none⟩)) (hw:TW w Tb Lb n (pre++(tzero++post))) (hpre:pre.length=i*5) (hi:i<n)
  (hl:l.length=16) (hc:Cells w ⟨B,base+off,none⟩ (u8s l)) (hB:B<w.heap.size)
  (hQ :∀σ' w' cs,Ag t σ σ'→Mod [Lb] w w'→RepT (fun b=>w.heap.size≤b) w' (GV.arr l).told cs→TW w' Tb Lb n (pre++(cs++post))→Q .normal σ' w'):wpC P (uidF i t off) Q σ w:=by
 have c3':w.drew.cell? ⟨Tb,3,none⟩=some (.slice (some ⟨Lb,0,none⟩) n n):=hw.tb.cell 3
 unfold uidF
 simp only [wpC]
 refine zM (fun _ v w1=>SlC (fun b=>w.heap.size≤b) w1 v l.length (u8s l)) (fun _ v w1 w2 h hm=>h.mod hm (by simp) fun _ _ h=>h) (kEX ht h0 h3 c3' fun σ1 a1 s1 s4=>?_)
 refine qQ (v:=.slice (some ⟨B,base+off,none⟩) 16 16) (by simp only [RK.val?,ev,s4]) ?_
 refine wL (fun w1 hm1 _=>?_) fun u hu=>?_
 ·have hm1':Mod [] w w1:=(Mod.drew _ _).trans hm1
  refine kAT (v:=.slice (some ⟨B,base+off,none⟩) 16 16) (l:=l) (ok:=fun _=>True) (by simp only [ev,updo,upd_same])
   ⟨_,16,by rw [hl],by omega,fun h=>by simp at h,fun a ha _=>by
    simp only [Option.some.injEq] at ha;subst ha
    exact ⟨trivial,Nat.lt_of_lt_of_le hB hm1'.size,hc.mod hm1' (.inr (by simp))⟩⟩ (by omega) fun b c w2 hb _ hge hm2=>⟨hm2,?_⟩
  exact hb.slc fun a ha=>⟨Nat.le_trans hm1'.size (hge a ha).1,(hge a ha).2⟩
 obtain ⟨wu,b4,c4,rfl,-⟩:=hu
 refine qQ (v:=.agg #[.int .i64 0,.slice b4 l.length c4,.bool false,.slice none 0 0,.slice none 0 0]) (by
  simp only [RK.val?,ev,updo,upd_same,tzero,zW,List.map_cons,List.map_nil,Value.cells];simp [splice]) ?_
 refine qQ (v:=.pointer (some ⟨Lb,i*5,none⟩)) (by
   simp only [RK.val?,ev,updo,upd,show t+1≠t+5 by omega,show t+1≠t+6 by omega,show t+1≠t+7 by omega,if_false,s1]
   rw [if_pos (by omega)];simp [Addr.kK]) ?_
 simp only [j4]
 intro w1 hm1 hkn
 have h6:=hkn 6 (by simp [kIT]) ⟨⟨some (t+6),.append (.const (.slice none 0 0)) (.tmp (t+5)) 1 1,none⟩,true,[]⟩ (by simp [kIT]) rfl rfl (t+6) rfl
 simp only [updo,upd,show t+6≠t+8 by omega,show t+6≠t+7 by omega,if_false,if_true] at h6
 refine kNY (cs:=[.int .i64 0,.slice b4 l.length c4,.bool false,.slice none 0 0,.slice none 0 0]) hw hpre ((Mod.drew [] w).trans hm1) (by simpa only [GV.told] using RepT.oct false h6) (fun j hj=>?_) (by simp only [updo,upd_same]) (by
  simp only [updo,upd,show t+7≠t+8 by omega,if_false,if_true]) hQ
 simp only [updo,upd,show j≠t+8 by omega,show j≠t+7 by omega,show j≠t+6 by omega,show j≠t+5 by omega,if_false]
 exact a1 j hj
end
inductive Tl where
 | nil
 | fld (k:TK) (rest:Tl)
 | lst (k:EK) (esz:Nat) (body:Tl) (rest:Tl)
 | uid (rest:Tl)
 | sub (f:FuncId) (size:Nat) (body:Tl) (rest:Tl)
 | tags (f1 each srt:FuncId)
 deriving Inhabited
def Tl.ty:Tl→List GV→Prop
 | .nil,gs=>gs=[]
 | .fld k rest,gs =>∃g l,gs=g::l∧k.ty g∧rest.ty l
 | .lst k esz body rest,gs =>∃isnil sz x l,gs=.lst isnil sz x::l∧(∀g∈x,k.ty body.ty g)∧x.length≤2147483647∧(x=[]∨sz=esz)∧rest.ty l
 | .uid rest,gs =>∃x l,gs=.arr x::l∧x.length=16∧rest.ty l
 | .sub _ size body rest,gs =>∃x l,gs=.rcd x::l∧body.ty x∧rest.ty l∧size=size
 | .tags ..,gs =>∃m,gs=[.tag m]∧m.length≤2147483647 ∧∀p∈m,p.2.length≤2147483647
def Tl.tg:Tl→Option (FuncId×FuncId×FuncId)
 | .nil=>none
 | .fld _ rest=>rest.tg
 | .lst _ _ _ rest=>rest.tg
 | .uid rest=>rest.tg
 | .sub _ _ _ rest=>rest.tg
 | .tags a b c=>some (a,b,c)
def Tl.size:Tl→Nat
 | .nil=>0
 | .fld _ rest=>1+rest.size
 | .lst _ _ _ rest=>1+rest.size
 | .uid rest=>16+rest.size
 | .sub _ n _ rest=>n+rest.size
 | .tags ..=>0
def Tl.Ok (P:Program):Tl→Prop
 | .nil=>True
 | .fld k rest=>k.Ok P∧rest.Ok P
 | .lst k _ body rest=>k.Ok P body.ty∧rest.Ok P
 | .uid rest=>rest.Ok P
 | .sub f n body rest=>kPJ P f body.ty∧rest.Ok P ∧∀O w gs css,body.ty gs→RepL O w gs css→css.flatten.length=n
 | .tags a b c=>TagFs P a b c
def Tl.len:Tl→Nat
 | .nil=>0
 | .fld _ rest=>1+rest.len
 | .lst _ _ _ rest=>1+rest.len
 | .uid rest=>1+rest.len
 | .sub _ _ _ rest=>1+rest.len
 | .tags ..=>0
def Tl.nl:Tl→Nat
 | .nil=>0
 | .fld _ rest=>rest.nl
 | .lst _ _ _ rest=>1+rest.nl
 | .uid rest=>rest.nl
 | .sub _ _ _ rest=>rest.nl
 | .tags ..=>0
def Tl.nt:Tl→Nat
 | .nil=>0
 | .fld k rest=>k.nt+rest.nt
 | .lst k _ _ rest=>54+2*k.n+rest.nt
 | .uid rest=>9+rest.nt
 | .sub _ _ _ rest=>7+rest.nt
 | .tags ..=>0
def Tl.gen:Tl→(i t off iv nb:Nat)→List IC
 | .nil,_,_,_,_,_=>[]
 | .fld k rest,i,t,off,iv,nb=>k.gen i t off::rest.gen (i+1) (t+k.nt) (off+1) iv nb
 | .lst k esz _ rest,i,t,off,iv,nb=>kNE i t off::loopT k i (t+9) off iv nb esz::rest.gen (i+1) (t+(54+2*k.n)) (off+1) (iv+1) (nb+2)
 | .uid rest,i,t,off,iv,nb=>uidF i t off::rest.gen (i+1) (t+9) (off+16) iv nb
 | .sub f n _ rest,i,t,off,iv,nb=>subF f i t off::rest.gen (i+1) (t+7) (off+n) iv nb
 | .tags ..,_,_,_,_,_=>[]
def Tl.t0 (tl:Tl):Nat:=4+tl.nl
def Tl.tail (tl:Tl) (t off:Nat):List IC:=match tl.tg with
 | none=>[]
 | some (a,b,c)=>kGX a b c t off
def Tl.tn (tl:Tl):Nat:=match tl.tg with
 | none=>0
 | some _=>8
def Tl.code (tl:Tl) (off:Nat):IC×List RV×Nat :=
 (seqs ([.blk [⟨some 2,.alloc tzero,none⟩],.blk [⟨some tl.t0,.mkslice (.const (.int .i64 tl.len)) (.const (.int .i64 tl.len)) 88 tzero,none⟩,⟨some (tl.t0+1),.build tzero [(3,1,.tmp tl.t0)],none⟩,⟨some 3,.alloc tzero,none⟩,⟨none,.st (.tmp 3) 5 (.tmp (tl.t0+1)),none⟩]] ++
  (tl.gen 0 (tl.t0+2) off 4 0++(tl.tail (tl.t0+2+tl.nt) (off+tl.size)++[.blk [⟨some (tl.t0+2+tl.nt+tl.tn),.ldn (.tmp 3) 5,none⟩,⟨none,.st (.tmp 2) 5 (.tmp (tl.t0+2+tl.nt+tl.tn)),none⟩],.ret]))),
  [.cells 2 5],tl.t0+3+tl.nt+tl.tn)
section
variable {P:Program}
theorem Tl.sound {Tb Lb n B base:Nat} {O:List Nat} (hB:B≠Lb) (hLO:Lb∈O) :∀(tl:Tl) (i t off iv nb:Nat) (gs:List GV) (gcs:List (List Value)) (pre:List Value) (σ:Sl) (w:World) (Q:Exit→Sl→World→Prop),tl.Ok P→tl.ty gs →
  RepL O w gs gcs→B<w.heap.size→Cells w ⟨B,base+off,none⟩ gcs.flatten→σ 0=.pointer (some ⟨B,base,none⟩)→σ 3=.pointer (some ⟨Tb,0,none⟩)→TW w Tb Lb n (pre++zrep tl.len tzero)→pre.length=i*5→i+tl.len≤n→4≤iv→iv+tl.nl≤t→4≤t →
  (∀σ' w' tcs,Ag 4 σ σ'→Mod [Lb] w w'→jN (fun b=>w.heap.size≤b) w' (GV.vD gs) tcs→TW w' Tb Lb n (pre++tcs.flatten)→tcs.length=tl.len→Q .normal σ' w')→wpL P (tl.gen i t off iv nb) Q σ w:=by
 intro tl
 induction tl with
 | nil =>
   intro i t off iv nb gs gcs pre σ w Q hO hT hr hBl hc h0 h3 hw hpre hi hiv hivt ht hQ
   simp only [Tl.ty] at hT
   subst hT
   exact hQ σ w [] (Ag.refl _ _) (Mod.refl _ _) (by simpa [GV.vD] using .nil) (by simpa [Tl.len,zrep] using hw) rfl
 | fld k rest ih =>
   intro i t off iv nb gs gcs pre σ w Q hO hT hr hBl hc h0 h3 hw hpre hi hiv hivt ht hQ
   obtain ⟨g,l,rfl,hg,hT⟩:=hT
   obtain ⟨hk,hO⟩:=hO
   cases hr with
   | @cons _ _ cs css h1 h2 =>
     obtain ⟨v,rfl⟩ :∃v,cs=[v]:=by
      cases k with
      | num c =>
        cases c with
        | true=>obtain ⟨k,m,rfl⟩:=hg;cases h1;exact ⟨_,rfl⟩
        | false=>obtain ⟨m,rfl,-⟩:=hg;cases h1;exact ⟨_,rfl⟩
      | str=>obtain ⟨m,rfl⟩:=hg;cases h1;exact ⟨_,rfl⟩
      | boo f=>obtain ⟨m,rfl⟩:=hg;cases h1;exact ⟨_,rfl⟩
      | txt f=>obtain ⟨m,rfl⟩:=hg;cases h1<;>exact ⟨_,rfl⟩
      | oct f=>obtain ⟨m,rfl,-⟩:=hg;cases h1;exact ⟨_,rfl⟩
     simp only [Tl.gen,wpL,Tl.len] at hi ⊢
     have hz:zrep (1+rest.len) tzero=tzero++zrep rest.len tzero:=by rw [Nat.add_comm,kAI]
     simp only [Tl.len,hz] at hw
     simp only [Tl.nl] at hivt
     simp only [List.flatten_cons] at hc
     refine TK.wp hk ht h0 h3 hw hpre (by omega) hg h1 (by simpa using hc.head) fun σ' w' cs' a' hm' hrep' htw'=>?_
     simp only [kF]
     have h5:=hrep'.five
     have hsub:=hc.sub 1
     refine ih (i+1) (t+k.nt) (off+1) iv nb l css (pre++cs') σ' w' Q hO hT (h2.mod hm' (by simpa using hLO)) (Nat.lt_of_lt_of_le hBl hm'.size) ?_ (by rw [a' 0 (by omega)];exact h0) (by rw [a' 3 (by omega)];exact h3) (by simpa only [List.append_assoc] using htw')
      (by simp only [List.length_append];omega) (by omega) hiv (by omega) (by omega) fun σ2 w2 tcs a2 hm2 hrep2 htw2 hl2=>?_
     ·have:Cells w ⟨B,base+off+1,none⟩ css.flatten:=by simpa using hsub
      exact this.mod hm' (.inr (by simpa using hB))
     ·refine hQ σ2 w2 (cs'::tcs) (fun q hq=>by rw [a2 q hq];exact a' q (by omega)) (hm'.trans hm2) ?_ (by simpa only [List.flatten_cons,List.append_assoc] using htw2) (by simp [hl2,Tl.len];omega)
      rw [GV.wP (by rintro m rfl;exact TK.kNC hg)]
      exact .cons (hrep'.mod hm2 (fun b hb hx=>by simp only [List.mem_singleton] at hb;subst hb;have:=hw.lb.lt;omega) fun _ _ h=>h) (hrep2.mod (Mod.refl [] _) (by simp) fun b _ hb=>Nat.le_trans hm'.size hb)
 | lst k esz body rest _ ih =>
   intro i t off iv nb gs gcs pre σ w Q hO hT hr hBl hc h0 h3 hw hpre hi hiv hivt ht hQ
   obtain ⟨isnil,sz,xs,l,rfl,hg,hlen,hsz,hT⟩:=hT
   obtain ⟨hk,hO⟩:=hO
   cases hr with
   | @cons _ _ cs css h1 h2 =>
     simp only [Tl.gen,wpL,Tl.len] at hi ⊢
     have hz:zrep (1+rest.len) tzero=tzero++zrep rest.len tzero:=by rw [Nat.add_comm,kAI]
     simp only [Tl.len,hz] at hw
     simp only [Tl.nl] at hivt
     simp only [List.flatten_cons] at hc
     -- the slice that the field holds
     obtain ⟨sb,cap,xcs,rfl,hisn,hrx,hsbx,hsn,hszx⟩ :∃sb cap xcs,cs=[.slice sb xs.length cap]∧isnil=sb.isNone∧RepL O w xs xcs∧(∀a,sb=some a→a.block ∉ O∧a.block<w.heap.size∧Cells w a xcs.flatten)∧(sb=none→xs=[])∧(∀c∈xcs,c.length=esz):=by
      cases h1 with
      | lst0=>exact ⟨none,0,[],rfl,rfl,.nil,fun a h=>by simp at h,fun _=>rfl,by simp⟩
      | @lst1 a nn c _ _ xcs ha hlt hn hc' hs hl hcells =>
        refine ⟨some a,c,xcs,by rw [hn],rfl,hl,fun a' e=>?_,fun h=>by simp at h,fun d hd=>?_⟩
        ·simp only [Option.some.injEq] at e;subst e;exact ⟨ha,hlt,hcells⟩
        ·rcases hsz with rfl|rfl
         ·have:=hl.length;cases xcs with|nil=>simp at hd|cons a b=>simp at this
         ·exact hs d hd
     have hcell:w.cell? ⟨B,base+off,none⟩=some (.slice sb xs.length cap):=by simpa using hc.head
     refine kPK ht h0 h3 hw hpre (by omega) hcell fun σ1 w1 a1 hm1 hsz1 htw1=>?_
     simp only [kF]
     have hLn :∀x∈[Lb],x∈O:=by simpa using hLO
     refine kPL hk (by omega) (by omega) hiv (by rw [a1 0 (by omega)];exact h0) (by rw [a1 3 (by omega)];exact h3) (by omega) htw1 hpre (zH hcell hm1 (by simpa using hB)) hB hLO (hrx.mod hm1 hLn)
      (fun a ha=>⟨(hsbx a ha).1,Nat.lt_of_lt_of_le (hsbx a ha).2.1 hm1.size,(hsbx a ha).2.2.mod hm1 (.inr (by simp only [List.mem_singleton];exact fun e=>(hsbx a ha).1 (e▸hLO)))⟩) hsn hszx hg hlen fun σ2 w2 cs' a2 hm2 hrep2 htw2=>?_
     simp only [kF]
     have h5:=hrep2.five
     have hsub:=hc.sub 1
     have hm12:=hm1.trans hm2
     have a12:Ag 4 σ σ2:=fun q hq=>by rw [a2 q (by omega) (by omega)];exact a1 q (by omega)
     refine ih (i+1) (t+(54+2*k.n)) (off+1) (iv+1) (nb+2) l css (pre++cs') σ2 w2 Q hO hT (h2.mod hm12 hLn) (Nat.lt_of_lt_of_le hBl hm12.size) ?_ (by rw [a12 0 (by omega)];exact h0) (by rw [a12 3 (by omega)];exact h3) (by simpa only [List.append_assoc] using htw2)
      (by simp only [List.length_append];omega) (by omega) (by omega) (by omega) (by omega) fun σ3 w3 tcs a3 hm3 hrep3 htw3 hl3=>?_
     ·have:Cells w ⟨B,base+off+1,none⟩ css.flatten:=by simpa using hsub
      exact this.mod hm12 (.inr (by simpa using hB))
     ·refine hQ σ3 w3 (cs'::tcs) (a12.trans a3) (hm12.trans hm3) ?_ (by simpa only [List.flatten_cons,List.append_assoc] using htw3) (by simp [hl3,Tl.len];omega)
      rw [GV.wP (by rintro m h;simp at h)]
      simp only [GV.told,hisn]
      refine .cons (hrep2.mod hm3 (fun b hb hx=>by simp only [List.mem_singleton] at hb;subst hb;have:=hw.lb.lt;omega) fun b _ hb=>by omega) (hrep3.mod (Mod.refl [] _) (by simp) fun b _ hb=>Nat.le_trans hm12.size hb)
 | uid rest ih =>
   intro i t off iv nb gs gcs pre σ w Q hO hT hr hBl hc h0 h3 hw hpre hi hiv hivt ht hQ
   obtain ⟨x,l,rfl,hx,hT⟩:=hT
   cases hr with
   | @cons _ _ cs css h1 h2 =>
     have:cs=u8s x:=by cases h1;rfl
     subst this
     simp only [Tl.gen,wpL,Tl.len] at hi ⊢
     have hz:zrep (1+rest.len) tzero=tzero++zrep rest.len tzero:=by rw [Nat.add_comm,kAI]
     simp only [Tl.len,hz] at hw
     simp only [Tl.nl] at hivt
     simp only [List.flatten_cons] at hc
     have hcx:Cells w ⟨B,base+off,none⟩ (u8s x):=by have:=hc.take (u8s x).length;simpa using this
     refine uidF_wp ht h0 h3 hw hpre (by omega) hx hcx hBl fun σ' w' cs' a' hm' hrep' htw'=>?_
     simp only [kF]
     have h5:=hrep'.five
     have hsub:=hc.sub 16
     refine ih (i+1) (t+9) (off+16) iv nb l css (pre++cs') σ' w' Q hO hT (h2.mod hm' (by simpa using hLO)) (Nat.lt_of_lt_of_le hBl hm'.size) ?_ (by rw [a' 0 (by omega)];exact h0) (by rw [a' 3 (by omega)];exact h3) (by simpa only [List.append_assoc] using htw')
      (by simp only [List.length_append];omega) (by omega) hiv (by omega) (by omega) fun σ2 w2 tcs a2 hm2 hrep2 htw2 hl2=>?_
     ·have:Cells w ⟨B,base+off+16,none⟩ css.flatten:=by
       have hlen:(u8s x).length=16:=by rw [kY,hx]
       rw [←hlen,List.drop_left] at hsub
       rw [hlen] at hsub
       exact hsub
      exact this.mod hm' (.inr (by simpa using hB))
     ·refine hQ σ2 w2 (cs'::tcs) (fun q hq=>by rw [a2 q hq];exact a' q (by omega)) (hm'.trans hm2) ?_ (by simpa only [List.flatten_cons,List.append_assoc] using htw2) (by simp [hl2,Tl.len];omega)
      rw [GV.wP (by rintro m h;simp at h)]
      exact .cons (hrep'.mod hm2 (fun b hb hx=>by simp only [List.mem_singleton] at hb;subst hb;have:=hw.lb.lt;omega) fun _ _ h=>h) (hrep2.mod (Mod.refl [] _) (by simp) fun b _ hb=>Nat.le_trans hm'.size hb)
 | sub f sz body rest _ ih =>
   intro i t off iv nb gs gcs pre σ w Q hO hT hr hBl hc h0 h3 hw hpre hi hiv hivt ht hQ
   obtain ⟨x,l,rfl,hx,hT,-⟩:=hT
   obtain ⟨hk,hO,hsz⟩:=hO
   cases hr with
   | @cons _ _ cs css h1 h2 =>
     obtain ⟨xcs,rfl,hrx⟩ :∃xcs,cs=xcs.flatten∧RepL O w x xcs:=by
      cases h1 with
      | rcd h=>exact ⟨_,rfl,h⟩
     have hxl:=hsz O w x xcs hx hrx
     simp only [Tl.gen,wpL,Tl.len] at hi ⊢
     have hz:zrep (1+rest.len) tzero=tzero++zrep rest.len tzero:=by rw [Nat.add_comm,kAI]
     simp only [Tl.len,hz] at hw
     simp only [Tl.nl] at hivt
     rw [List.flatten_cons] at hc
     have hcx:Cells w ⟨B,base+off,none⟩ xcs.flatten:=by have:=hc.take xcs.flatten.length;simpa using this
     refine subF_wp hk ht h0 h3 hw hpre (by omega) hx hrx hcx fun σ' w' cs' a' hm' hrep' htw'=>?_
     simp only [kF]
     have h5:=hrep'.five
     have hsub:=hc.sub sz
     refine ih (i+1) (t+7) (off+sz) iv nb l css (pre++cs') σ' w' Q hO hT (h2.mod hm' (by simpa using hLO)) (Nat.lt_of_lt_of_le hBl hm'.size) ?_ (by rw [a' 0 (by omega)];exact h0) (by rw [a' 3 (by omega)];exact h3) (by simpa only [List.append_assoc] using htw')
      (by simp only [List.length_append];omega) (by omega) hiv (by omega) (by omega) fun σ2 w2 tcs a2 hm2 hrep2 htw2 hl2=>?_
     ·have:Cells w ⟨B,base+(off+sz),none⟩ css.flatten:=by
       rw [←hxl,List.drop_left] at hsub
       rw [hxl] at hsub
       rwa [←Nat.add_assoc]
      exact this.mod hm' (.inr (by simpa using hB))
     ·refine hQ σ2 w2 (cs'::tcs) (fun q hq=>by rw [a2 q hq];exact a' q (by omega)) (hm'.trans hm2) ?_ (by simpa only [List.flatten_cons,List.append_assoc] using htw2) (by simp [hl2,Tl.len];omega)
      rw [GV.wP (by rintro m h;simp at h)]
      exact .cons (hrep'.mod hm2 (fun b hb hx=>by simp only [List.mem_singleton] at hb;subst hb;have:=hw.lb.lt;omega) fun _ _ h=>h) (hrep2.mod (Mod.refl [] _) (by simp) fun b _ hb=>Nat.le_trans hm'.size hb)
 | tags a b c =>
   intro i t off iv nb gs gcs pre σ w Q hO hT hr hBl hc h0 h3 hw hpre hi hiv hivt ht hQ
   obtain ⟨m,rfl,-⟩:=hT
   exact hQ σ w [] (Ag.refl _ _) (Mod.refl _ _) (by simpa [GV.vD] using .nil) (by simpa [Tl.len,zrep] using hw) rfl
theorem Tl.no_tags :∀(tl:Tl) (gs:List GV),tl.tg=none→tl.ty gs→GV.vC gs=[]:=by
 intro tl
 induction tl with
 | nil=>intro gs _ h;simp only [Tl.ty] at h;subst h;rfl
 | fld k rest ih =>
   rintro gs h ⟨g,l,rfl,hg,hT⟩
   have:=ih l h hT
   cases g<;>first|exact this|exact (TK.kNC hg).elim
 | lst k esz body rest _ ih=>rintro gs h ⟨_,_,_,l,rfl,-,-,-,hT⟩;exact ih l h hT
 | uid rest ih=>rintro gs h ⟨_,l,rfl,-,hT⟩;exact ih l h hT
 | sub f sz body rest _ ih=>rintro gs h ⟨_,l,rfl,-,hT,-⟩;exact ih l h hT
 | tags a b c=>intro gs h;simp [Tl.tg] at h
theorem Tl.kP6 {O:List Nat} {w:World} :∀(tl:Tl) (gs:List GV) (gcs:List (List Value)) (a b c:FuncId),tl.tg=some (a,b,c)→tl.Ok P→tl.ty gs→RepL O w gs gcs →
  ∃m v,gcs.flatten[tl.size]?=some v∧Rep O w (.tag m) [v]∧GV.vC gs=uF m∧m.length≤2147483647∧(∀p∈m,p.2.length≤2147483647)∧TagFs P a b c:=by
 intro tl
 have step :∀{n k:Nat} {g:GV} {l:List GV} {cs:List Value} {css:List (List Value)} {m:List (Nat×List UInt8)} {v:Value},cs.length=n→(∀m,g≠.tag m)→css.flatten[k]?=some v→GV.vC l=uF m →
   (cs::css).flatten[n+k]?=some v∧GV.vC (g::l)=uF m:=by
  intro n k g l cs css m v hn hg hk ht
  refine ⟨?_,?_⟩
  ·rw [List.flatten_cons,List.getElem?_append_right (by omega),show n+k-cs.length=k by omega];exact hk
  ·cases g<;>first|exact ht|exact absurd rfl (hg _)
 induction tl with
 | nil=>intro gs gcs a b c h;simp [Tl.tg] at h
 | fld k rest ih =>
   intro gs gcs a b c h hO hT hr
   obtain ⟨g,l,rfl,hg,hT⟩:=hT
   cases hr with
   | @cons _ _ cs css h1 h2 =>
     obtain ⟨m,v,e1,e2,e3,e4⟩:=ih l css a b c h hO.2 hT h2
     obtain ⟨q1,q2⟩:=step (n:=1) (g:=g) (TK.one hg h1) (by rintro m rfl;exact TK.kNC hg) e1 e3
     exact ⟨m,v,q1,e2,q2,e4⟩
 | lst k esz body rest _ ih =>
   intro gs gcs a b c h hO hT hr
   obtain ⟨isnil,sz,x,l,rfl,-,-,-,hT⟩:=hT
   cases hr with
   | @cons _ _ cs css h1 h2 =>
     obtain ⟨m,v,e1,e2,e3,e4⟩:=ih l css a b c h hO.2 hT h2
     have hl:cs.length=1:=by cases h1<;>rfl
     obtain ⟨q1,q2⟩:=step (n:=1) (g:=.lst isnil sz x) hl (by rintro m h;simp at h) e1 e3
     exact ⟨m,v,q1,e2,q2,e4⟩
 | uid rest ih =>
   intro gs gcs a b c h hO hT hr
   obtain ⟨x,l,rfl,hx,hT⟩:=hT
   cases hr with
   | @cons _ _ cs css h1 h2 =>
     obtain ⟨m,v,e1,e2,e3,e4⟩:=ih l css a b c h hO hT h2
     have hl:cs.length=16:=by cases h1;rw [kY,hx]
     obtain ⟨q1,q2⟩:=step (n:=16) (g:=.arr x) hl (by rintro m h;simp at h) e1 e3
     exact ⟨m,v,q1,e2,q2,e4⟩
 | sub f sz body rest _ ih =>
   intro gs gcs a b c h hO hT hr
   obtain ⟨x,l,rfl,hx,hT,-⟩:=hT
   cases hr with
   | @cons _ _ cs css h1 h2 =>
     obtain ⟨m,v,e1,e2,e3,e4⟩:=ih l css a b c h hO.2.1 hT h2
     have hl:cs.length=sz:=by cases h1 with|rcd h1=>exact hO.2.2 _ _ _ _ hx h1
     obtain ⟨q1,q2⟩:=step (n:=sz) (g:=.rcd x) hl (by rintro m h;simp at h) e1 e3
     exact ⟨m,v,q1,e2,q2,e4⟩
 | tags a' b' c' =>
   intro gs gcs a b c h hO hT hr
   simp only [Tl.tg,Option.some.injEq,Prod.mk.injEq] at h
   obtain ⟨rfl,rfl,rfl⟩:=h
   obtain ⟨m,rfl,h1,h2⟩:=hT
   cases hr with
   | @cons _ _ cs css q1 q2 =>
     cases q2
     obtain ⟨v,rfl⟩ :∃v,cs=[v]:=by cases q1<;>exact ⟨_,rfl⟩
     exact ⟨m,v,rfl,q1,rfl,h1,h2,hO⟩
def kNZ (P:Program) (f:FuncId) (off:Nat) (T:List GV→Prop):Prop :=
 ∀(O:List Nat) (w:World) (B base:Nat) (gs:List GV) (css:List (List Value)),T gs→RepL O w gs css→B<w.heap.size→Cells w ⟨B,base+off,none⟩ css.flatten →
   kPI P f [.pointer (some ⟨B,base,none⟩)] w (GV.rcd gs).told
theorem Tl.call {tl:Tl} {f off:Nat} (hm:P.follows .mixedOrders=true) (h:kH P f=some (tl.code off)) (hO:tl.Ok P) (hlen:tl.len≤1000):kNZ P f off tl.ty:=by
 intro O w B base gs css hT hr hBlt hc
 unfold Tl.code at h
 refine kT h hm (by simp;omega) ?_
 rw [yB]
 have s0:qE [.pointer (some ⟨B,base,none⟩)] 0=.pointer (some ⟨B,base,none⟩):=rfl
 generalize qE [.pointer (some ⟨B,base,none⟩)]=σ0 at s0
 have ht0:tl.t0=4+tl.nl:=rfl
 simp only [List.cons_append,List.nil_append,wpL]
 simp only [kD,wpR,RI.wp,gOk,if_true,RK.run,ev,updo]
 intro T1
 simp only [kF]
 have hmul:((tl.len:Int)*(88:Nat))≤70368744177664:=by omega
 refine ⟨by omega,by omega,hmul,by omega,?_⟩
 intro T2
 simp only [Int.toNat_natCast,upd_same,List.map_cons,List.map_nil]
 have hf :∀v:Value,v.cells=#[v]→zW tzero [(3,1,v)]=some [.int .i64 0,.slice none 0 0,.bool false,v,.slice none 0 0]:=by
  intro v hv
  simp only [zW,hv]
  simp [tzero,splice]
 rw [hf _ rfl]
 simp only
 intro T3
 have ec :∀cs,(Value.agg cs).cells=cs:=fun _=>rfl
 simp only [upd,if_true,show tl.t0+1≠3 by omega,if_false,ec]
 -- the three new blocks
 have b2:=Blk.new w tzero T1
 generalize hw1:w.alloc (.cells tzero.toArray T1)=w1 at b2 ⊢
 have z1:w1.heap.size=w.heap.size+1:=by rw [←hw1];simp
 have m1:Mod [] w w1:=by rw [←hw1];exact Mod.alloc _ _ _
 have bL:=Blk.new w1 (zrep tl.len tzero) T2
 generalize hw2:w1.alloc (.cells (zrep tl.len tzero).toArray T2)=w2 at bL ⊢
 have z2:w2.heap.size=w1.heap.size+1:=by rw [←hw2];simp
 have m2:Mod [] w1 w2:=by rw [←hw2];exact Mod.alloc _ _ _
 obtain ⟨k1,k2,k3⟩:=wV w2 tzero [.int .i64 0,.slice none 0 0,.bool false,.slice (some ⟨w1.heap.size,0,none⟩) tl.len tl.len,.slice none 0 0] T3 rfl (by simp [Value.oneCell'])
 generalize hw3:w2.alloc (.cells tzero.toArray T3)=w3 at k1 k2 k3 ⊢
 have z3:w3.heap.size=w2.heap.size+1:=by rw [←hw3];simp
 refine ⟨by rfl,by simpa using k1,?_⟩
 rw [wO]
 have hput:(putCells w3 ⟨w2.heap.size,0,none⟩ 0 [.int .i64 0,.slice none 0 0,.bool false,.slice (some ⟨w1.heap.size,0,none⟩) tl.len tl.len,.slice none 0 0]).heap.size=w3.heap.size:=zX ..
 generalize hw4:putCells w3 ⟨w2.heap.size,0,none⟩ 0 [.int .i64 0,.slice none 0 0,.bool false,.slice (some ⟨w1.heap.size,0,none⟩) tl.len tl.len,.slice none 0 0]=w4 at k2 k3 hput
 have m14:Mod [] w w4:=(m1.trans m2).trans k3
 have htw:TW w4 w2.heap.size w1.heap.size tl.len (zrep tl.len tzero):=⟨k2,bL.mod k3 (by simp),by omega⟩
 refine Tl.sound (Tb:=w2.heap.size) (Lb:=w1.heap.size) (n:=tl.len) (B:=B) (base:=base) (O:=w2.heap.size::w1.heap.size::O) (by omega) (by simp) tl 0 (tl.t0+2) off 4 0 gs css [] _ w4 _ hO hT
  (hr.fresh m14 (by simp) (fun x hx=>by
   rcases List.mem_cons.1 hx with rfl|hx
   ·exact .inr (by omega)
   ·rcases List.mem_cons.1 hx with rfl|hx
    ·exact .inr (by omega)
    ·exact .inl hx)) (by omega) (hc.mod m14 (.inr (by simp))) ?_ ?_ htw rfl (by omega) (by omega) (by omega) (by omega) fun σ' w' tcs a' hm' hrep htw' hln=>?_
 ·simp only [upd,show (0:Nat)≠3 by omega,show (0:Nat)≠tl.t0+1 by omega,show (0:Nat)≠tl.t0 by omega,show (0:Nat)≠2 by omega,if_false,s0]
 ·simp only [upd,if_true]
 ·have s2':σ' 2=.pointer (some ⟨w.heap.size,0,none⟩):=by
   rw [a' 2 (by omega)]
   simp only [upd,show (2:Nat)≠3 by omega,show (2:Nat)≠tl.t0+1 by omega,show (2:Nat)≠tl.t0 by omega,if_false,if_true]
  have s3':σ' 3=.pointer (some ⟨w2.heap.size,0,none⟩):=by
   rw [a' 3 (by omega)]
   simp only [upd,if_true]
  have s0':σ' 0=.pointer (some ⟨B,base,none⟩):=by
   rw [a' 0 (by omega)]
   simp only [upd,show (0:Nat)≠3 by omega,show (0:Nat)≠tl.t0+1 by omega,show (0:Nat)≠tl.t0 by omega,show (0:Nat)≠2 by omega,if_false,s0]
  have hb2:Blk w' w.heap.size tzero:=((b2.mod (m2.trans k3) (by simp))).mod hm' (by simp;omega)
  -- behind the fields
  have fin :∀(σ5:Sl) (w5:World) (t:Nat) (uv:Value) (ucs:List (List Value)),4≤t→σ5 2=.pointer (some ⟨w.heap.size,0,none⟩)→σ5 3=.pointer (some ⟨w2.heap.size,0,none⟩)→Mod [w2.heap.size] w' w5 →
    Blk w5 w2.heap.size [.int .i64 0,.slice none 0 0,.bool false,.slice (some ⟨w1.heap.size,0,none⟩) tl.len tl.len,uv]→SlC (fun b=>w.heap.size≤b∧b≠w.heap.size) w5 uv (GV.vC gs).length ucs.flatten →
    RepU (fun b=>w.heap.size≤b∧b≠w.heap.size) w5 (GV.vC gs) ucs→wpL P [.blk [⟨some t,.ldn (.tmp 3) 5,none⟩,⟨none,.st (.tmp 2) 5 (.tmp t),none⟩],.ret] (postC [.cells 2 5] fun e w6 =>∃cs,e=.returned (.agg cs.toArray)∧RepT (fun b=>w.heap.size≤b) w6 (GV.rcd gs).told cs∧Mod [] w w6) σ5 w5:=by
   intro σ5 w5 t uv ucs ht5 q2 q3 hm5 hb5 hus hru
   have uone:uv.oneCell'=true:=hus.one
   have hld:kV w5 ⟨w2.heap.size,0,none⟩ 0 5=some [.int .i64 0,.slice none 0 0,.bool false,.slice (some ⟨w1.heap.size,0,none⟩) tl.len tl.len,uv]:=kJ hb5.cells rfl
   have hb2':Blk w5 w.heap.size tzero:=hb2.mod hm5 (by simp;omega)
   have hput2:Mod [w.heap.size] w5 (putCells w5 ⟨w.heap.size,0,none⟩ 0 [.int .i64 0,.slice none 0 0,.bool false,.slice (some ⟨w1.heap.size,0,none⟩) tl.len tl.len,uv]):=Mod.put (by simp)
   have hb3:=hb2'.put (o:=0) (vs:=[.int .i64 0,.slice none 0 0,.bool false,.slice (some ⟨w1.heap.size,0,none⟩) tl.len tl.len,uv]) (by simp [tzero])
   rw [jW (by rfl)] at hb3
   simp only [wpL]
   rw [kD]
   refine kC (v:=.agg [.int .i64 0,.slice none 0 0,.bool false,.slice (some ⟨w1.heap.size,0,none⟩) tl.len tl.len,uv].toArray) (by simp only [RK.val?,ev,q3,hld,Option.map_some]) ?_
   refine kX ?_
   simp only [RK.run,ev,updo,upd,show (2:Nat)≠t by omega,if_false,if_true,q2,ec]
   refine ⟨rfl,qL hb2' (by simp [tzero]) (fun x hx=>by
    simp only [List.mem_cons,List.not_mem_nil,or_false] at hx
    rcases hx with rfl|rfl|rfl|rfl|rfl<;>first|rfl|exact uone),?_⟩
   refine kE ?_
   simp only [wpC,kF,postC,rvals,List.mapM_cons,List.mapM_nil,RV.val,upd,show (2:Nat)≠t by omega,if_false,q2,kJ hb3.cells (n:=5) rfl,Option.bind_eq_bind,Option.map_some,Option.bind_some,Option.pure_def,zR]
   have m56:Mod [w2.heap.size,w.heap.size] w' (putCells w5 ⟨w.heap.size,0,none⟩ 0 [.int .i64 0,.slice none 0 0,.bool false,.slice (some ⟨w1.heap.size,0,none⟩) tl.len tl.len,uv]):=(hm5.mono (by simp)).trans (hput2.mono (by simp))
   refine ⟨_,rfl,?_,?_⟩
   ·have hlt:(GV.vD gs).length=tl.len:=hrep.length.trans hln
    simp only [GV.told]
    refine .mk (css:=tcs) (uss:=ucs) SlC.nil ⟨some ⟨w1.heap.size,0,none⟩,tl.len,by rw [hlt],by rw [hlt];exact Nat.le_refl _,fun h=>by simp at h,fun a ha _=>?_⟩ ?_
     (hus.mod hput2 (fun b hb hx=>by simp only [List.mem_singleton] at hb;exact hx.2 hb) fun b _ hb=>hb.1) (hru.mod hput2 (fun b hb hx=>by simp only [List.mem_singleton] at hb;exact hx.2 hb) fun b _ hb=>hb.1)
    ·simp only [Option.some.injEq] at ha;subst ha
     refine ⟨show w.heap.size≤w1.heap.size by omega,?_,?_⟩
     ·exact Nat.lt_of_lt_of_le htw'.lb.lt m56.size
     ·have:=(htw'.lb.mod m56 (by simp;omega)).cells
      simpa using this
    ·exact (hrep.mod m56 (fun b hb hx=>by simp only [List.mem_cons,List.not_mem_nil,or_false] at hb;omega) fun b _ hb=>by omega)
   ·refine Mod.drop (b:=w.heap.size) (S:=[]) ?_ (Nat.le_refl _)
    refine Mod.drop (b:=w1.heap.size) (S:=[w.heap.size]) ?_ (by omega)
    refine Mod.drop (b:=w2.heap.size) (S:=[w1.heap.size,w.heap.size]) ?_ (by omega)
    exact (m14.nil.trans (hm'.mono (by simp))).trans (m56.mono (by simp))
  simp only [kF]
  rw [wO]
  cases htg:tl.tg with
  | none =>
    have e1:tl.tail (tl.t0+2+tl.nt) (off+tl.size)=[]:=by unfold Tl.tail;rw [htg]
    rw [e1]
    have hnt:GV.vC gs=[]:=Tl.no_tags tl gs htg hT
    have:=fin σ' w' (tl.t0+2+tl.nt+tl.tn) (.slice none 0 0) [] (by omega) s2' s3' (Mod.refl _ _) htw'.tb (by rw [hnt];exact SlC.nil) (by rw [hnt];exact .nil)
    simpa only [wpL,kF] using this
  | some q =>
    obtain ⟨a,b,c⟩:=q
    have e1:tl.tail (tl.t0+2+tl.nt) (off+tl.size)=kGX a b c (tl.t0+2+tl.nt) (off+tl.size):=by unfold Tl.tail;rw [htg]
    rw [e1]
    obtain ⟨m,v,u1,u2,u3,u4,u5,u6⟩:=Tl.kP6 tl gs css a b c htg hO hT hr
    have hcv:w.cell? ⟨B,base+(off+tl.size),none⟩=some v:=by
     have:=hc.2 tl.size v u1
     simpa [Nat.add_assoc] using this
    have hrv:Rep (w2.heap.size::w1.heap.size::O) w4 (.tag m) [v]:=u2.fresh m14 (by simp) (fun x hx=>by
     rcases List.mem_cons.1 hx with rfl|hx
     ·exact .inr (by omega)
     ·rcases List.mem_cons.1 hx with rfl|hx
      ·exact .inr (by omega)
      ·exact .inl hx)
    have hrv':=hrv.mod hm' (by simp)
    have hTM:TagM (fun b=>b ∉ w2.heap.size::w1.heap.size::O) w' v m ∧∀r,v=.map (some r)→r≠w2.heap.size:=by
     cases hrv' with
     | tag0=>exact ⟨.inl ⟨rfl,rfl⟩,fun r h=>by simp at h⟩
     | @tag1 r _ h1 h2=>exact ⟨.inr ⟨r,rfl,h2⟩,fun r' h=>by simp only [Value.map.injEq,Option.some.injEq] at h;subst h;exact fun e=>h1 (by simp [e])⟩
    refine kL2 u6 (okv:=fun b=>b ∉ w2.heap.size::w1.heap.size::O) (by omega) s0' s3' htw'.tb (zH (zH hcv m14 (by simp)) hm' (by simp;omega)) hTM.1 (fun b hb e=>hb (by simp [e])) (by omega) hTM.2 u4 u5 fun σ6 w6 uv ucs a6 hm6 hb6 hs6 hr6=>?_
    simp only [kF]
    refine fin σ6 w6 (tl.t0+2+tl.nt+tl.tn) uv ucs (by omega) (by rw [a6 2 (by omega)];exact s2') (by rw [a6 3 (by omega)];exact s3') hm6 hb6 ?_ ?_
    ·rw [u3];exact hs6.mod (Mod.refl [] _) (by simp) fun b _ hb=>by have:=hm'.size;omega
    ·rw [u3];exact hr6.mod (Mod.refl [] _) (by simp) fun b _ hb=>by have:=hm'.size;omega
end
def PK.ty:PK→GV→Prop
 | .bool,g =>∃b,g=.num (.bool b)
 | .i64,g =>∃n,g=.num (.int .i64 n)∧IntKind.i64.wrap n=n
 | .str,g =>∃l,g=.num (Msk.str l)
 | .nstr,g =>∃o,g=.nstr o
 | .byt,g|.nbyt,g =>∃o,g=.byt o ∧∀l,o=some l→l.length≤2147483647
 | .uuid,g =>∃l,g=.arr l∧l.length=16
 | _,g =>∃k n,g=.num (.int k n)
def fitF:PK→TK→Bool
 | .bool,.boo _=>true
 | .i64,.num false=>true
 | .str,.str=>true
 | .nstr,.txt _=>true
 | .byt,.oct _|.nbyt,.oct _=>true
 | .i8,.num true|.i16,.num true|.u16,.num true|.i32,.num true|.u32,.num true=>true
 | _,_=>false
def fitE:PK→EK→Bool
 | .i64,.num false=>true
 | .str,.str=>true
 | .i8,.num true|.i16,.num true|.u16,.num true|.i32,.num true|.u32,.num true=>true
 | _,_=>false
theorem kEY {p:PK} {k:TK} {g:GV} (h:fitF p k=true) (hg:p.ty g):k.ty g:=by
 cases p<;>cases k<;>simp only [fitF,Bool.false_eq_true] at h<;>first|exact hg|(rename_i c;cases c<;>simp only [Bool.false_eq_true] at h<;>exact hg)
theorem fitE_ty {p:PK} {k:EK} {T:List GV→Prop} {g:GV} (h:fitE p k=true) (hg:p.ty g):k.ty T g:=by
 cases p<;>cases k<;>simp only [fitE,Bool.false_eq_true] at h<;>first|exact hg|(rename_i c;cases c<;>simp only [Bool.false_eq_true] at h<;>exact hg)
def fitD:PK→Df→Bool
 | .bool,.bool _=>true
 | .i64,.int .i64 n=>decide (IntKind.i64.wrap n=n)
 | .str,.str _=>true
 | .nstr,.nstr=>true
 | .byt,.byt|.nbyt,.byt=>true
 | .uuid,.uuid=>true
 | .i8,.int ..|.i16,.int ..|.u16,.int ..|.i32,.int ..|.u32,.int ..=>true
 | _,_=>false
theorem kC5 {p:PK} {d:Df} (h:fitD p d=true):p.ty d.gv:=by
 cases p<;>cases d<;>simp only [fitD,Bool.false_eq_true] at h<;>first|exact ⟨_,_,rfl⟩|exact ⟨_,rfl⟩|exact ⟨none,rfl,by simp⟩|exact ⟨_,rfl,by simp⟩|skip
 rename_i k n
 cases k<;>simp only [Bool.false_eq_true,decide_eq_true_eq] at h
 exact ⟨n,rfl,h⟩
def fit:Sc→Tl→Bool
 | .nil,.nil=>true
 | .prm _ _ _ p d rest,.fld k r=>fitF p k&&fitD p d&&fit rest r
 | .prm _ _ _ p d rest,.uid r=>decide (p=.uuid)&&fitD p d&&fit rest r
 | .enm _ _ _ p d rest,.fld k r=>fitF p k&&fitD p d&&fit rest r
 | .lsp _ _ _ d _ _ p rest,.lst k esz _ r=>fitE p k&&decide (d.size=esz)&&fit rest r
 | .lss _ _ _ _ _ body rest,.lst (.tell _) esz b r=>fit body b&&decide (body.size=esz)&&fit rest r
 | .sub _ _ body rest,.sub _ n b r=>fit body b&&decide (body.size=n)&&fit rest r
 | .tags _,.tags ..=>true
 | .uid _ _ rest,.uid r=>fit rest r
 | _,_=>false
theorem kN0 :∀(sc:Sc) (tl:Tl),fit sc tl=true→tl.ty sc.dgv:=by
 intro sc
 induction sc with
 | nil=>intro tl hf;cases tl<;>simp only [fit,Bool.false_eq_true] at hf;rfl
 | prm vc i r p d rest ih =>
   intro tl hf
   cases tl<;>simp only [fit,Bool.false_eq_true,Bool.and_eq_true] at hf
   ·exact ⟨_,_,rfl,kEY hf.1.1 (kC5 hf.1.2),ih _ hf.2⟩
   ·have e:p=.uuid:=by simpa using hf.1.1
    subst e
    obtain ⟨l,h1,h2⟩:=kC5 hf.1.2
    exact ⟨l,_,by rw [Sc.dgv,h1],h2,ih _ hf.2⟩
 | enm vc i r p d rest ih =>
   intro tl hf
   cases tl<;>simp only [fit,Bool.false_eq_true,Bool.and_eq_true] at hf
   exact ⟨_,_,rfl,kEY hf.1.1 (kC5 hf.1.2),ih _ hf.2⟩
 | lsp vc len by' d i r p rest ih =>
   intro tl hf
   cases tl<;>simp only [fit,Bool.false_eq_true,Bool.and_eq_true] at hf
   exact ⟨_,_,_,_,rfl,by simp,by simp,.inl rfl,ih _ hf.2⟩
 | lss vc len by' z dfl body rest ihb ih =>
   intro tl hf
   cases tl with
   | lst k esz b r' =>
     cases k<;>simp only [fit,Bool.false_eq_true,Bool.and_eq_true] at hf
     exact ⟨_,_,_,_,rfl,by simp,by simp,.inl rfl,ih _ hf.2⟩
   | _=>simp [fit] at hf
 | sub vc dfl body rest ihb ih =>
   intro tl hf
   cases tl<;>simp only [fit,Bool.false_eq_true,Bool.and_eq_true] at hf
   exact ⟨_,_,rfl,ihb _ hf.1.1,ih _ hf.2,rfl⟩
 | vst _ _ _ _ rest ih =>
   intro tl hf
   cases tl<;>simp only [fit,Bool.false_eq_true] at hf
 | uid vc f rest ih =>
   intro tl hf
   cases tl<;>simp only [fit,Bool.false_eq_true] at hf
   exact ⟨_,_,rfl,by simp,ih _ hf⟩
 | tags f =>
   intro tl hf
   cases tl<;>simp only [fit,Bool.false_eq_true] at hf
   exact ⟨[],rfl,by simp,by simp⟩
end Go.Msk
