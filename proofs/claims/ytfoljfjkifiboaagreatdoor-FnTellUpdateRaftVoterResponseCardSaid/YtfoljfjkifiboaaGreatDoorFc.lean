/- A small language of resolved operations, and what the generic and the generated functions do in it (part 3). -/
import Derived.Test.YtfoljfjkifiboaaGreatDoorFb
import Derived.ScopeJumps
namespace Go.Msk
open Go.RowKit
inductive Reach (ops:Array Oper) (j:Nat):Nat→Prop
 | one {i:Nat} {o:Oper} {e:Edge}:ops[i]?=some o→e∈o.after→Region.binds .any e=true→e.on=j→Reach ops j i
 | more {i:Nat} {o:Oper} {e:Edge}:ops[i]?=some o→e∈o.after→Region.binds .any e=true→Reach ops j e.on→Reach ops j i
theorem Reach.trans {ops:Array Oper} {k j i:Nat} (h:Reach ops k j) (h':Reach ops j i):Reach ops k i:=by
 induction h' with
 | one ho he hb hon=>subst hon;exact .more ho he hb h
 | more ho he hb _ ih=>exact .more ho he hb ih
def Closed (ops:Array Oper) (listed:Array Bool):Prop :=
 ∀i o,ops[i]?=some o→listed.getD i false=true →∀e∈o.after,Region.binds .any e=true→listed.getD e.on false=true
theorem Closed.reach {ops:Array Oper} {listed:Array Bool} (h:Closed ops listed) {j i:Nat} (hr:Reach ops j i)
 (hi :∀o,ops[i]?=some o →∀e∈o.after,Region.binds .any e=true→listed.getD e.on false=true):listed.getD j false=true:=by
 induction hr with
 | one ho he hb hon=>subst hon;exact hi _ ho _ he hb
 | more ho he hb _ ih=>exact ih fun o' ho'=>h _ o' ho' (hi _ ho _ he hb)
def kMP (acc:List Nat) (o:Oper):Nat :=
 o.after.toList.foldl (fun s e=>if Region.binds .any e then s|||(2^e.on)|||acc.getD e.on 0 else s) 0
def masks:List Oper→List Nat→List Nat
 | [],acc=>acc
 | o::r,acc=>masks r (acc++[kMP acc o])
theorem kHJ {ops:Array Oper} {acc:List Nat} (hacc :∀i m,acc[i]?=some m →∀j,m.testBit j=true→Reach ops j i)
  {i:Nat} {o:Oper} (ho:ops[i]?=some o) {j:Nat} (h:(kMP acc o).testBit j=true):Reach ops j i:=by
 have gen :∀(es:List Edge) (s:Nat),(∀e∈es,e∈o.after)→(s.testBit j=true→Reach ops j i) →
   (es.foldl (fun s e=>if Region.binds .any e then s|||(2^e.on)|||acc.getD e.on 0 else s) s).testBit j=true→Reach ops j i:=by
  intro es
  induction es with
  | nil=>intro s _ hs h;exact hs h
  | cons e es ih =>
    intro s hes hs h
    rw [List.foldl_cons] at h
    refine ih _ (fun e' he'=>hes e' (by simp [he'])) (fun hb=>?_) h
    split at hb
    ·rename_i hbind
     have he:e∈o.after:=hes e (by simp)
     rw [Nat.testBit_or,Nat.testBit_or,Bool.or_eq_true,Bool.or_eq_true] at hb
     rcases hb with (hb|hb)|hb
     ·exact hs hb
     ·rw [Nat.testBit_two_pow,decide_eq_true_eq] at hb
      exact .one ho he hbind hb
     ·cases hg:acc[e.on]? with
      | none=>simp [List.getD,hg] at hb
      | some m =>
        simp [List.getD,hg] at hb
        exact .more ho he hbind (hacc _ _ hg _ hb)
    ·exact hs hb
 exact gen o.after.toList 0 (fun e he=>by simpa using he) (by simp) h
theorem kJF {ops:Array Oper} :∀(l:List Oper) (acc:List Nat),(∀k,l[k]?=ops[acc.length+k]?) →
  (∀i m,acc[i]?=some m →∀j,m.testBit j=true→Reach ops j i) →
  ∀i m,(masks l acc)[i]?=some m →∀j,m.testBit j=true→Reach ops j i:=by
 intro l
 induction l with
 | nil=>intro acc _ hacc;exact hacc
 | cons o l ih =>
   intro acc hl hacc
   have ho:ops[acc.length]?=some o:=by have:=hl 0;simpa using this.symm
   refine ih (acc++[kMP acc o]) (fun k=>?_) (fun i m him j hj=>?_)
   ·have:=hl (k+1)
    simp only [List.getElem?_cons_succ] at this
    rw [this];congr 1;simp;omega
   ·by_cases hi:i<acc.length
    ·rw [List.getElem?_append_left hi] at him;exact hacc i m him j hj
    ·rw [List.getElem?_append_right (by omega)] at him
     have hi':i=acc.length:=by
      rcases Nat.lt_or_ge (i-acc.length) 1 with h|h
      ·omega
      ·rw [List.getElem?_eq_none (by simp;omega)] at him;simp at him
     subst hi'
     simp only [Nat.sub_self,List.getElem?_cons_zero,Option.some.injEq] at him
     subst him
     exact kHJ hacc ho hj
def yC:RK→Bool
 | .alloc _|.box _|.bslice _ _ _|.s2b _|.mkslice _ _ _ _|.call _ _|.append _ _ _ _|.appendz _ _ _ _|.callv _ _|.invk _ _ _=>true
 | _=>false
def isSink:RK→Bool
 | .st _ _ _|.append _ _ _ _|.appendz _ _ _ _|.copy _ _ _=>true
 | _=>false
def kD7:Option (Nat×Bool)→List Nat
 | some (d,_)=>[d]
 | none=>[]
def RI.reads (i:RI):List Nat:=i.k.opds.flatMap Operand.tmps++kD7 i.guard
def writer (l:List RI) (t:Nat):Option Nat :=
 l.findIdx? fun i=>match i.dst with|some d=>d==t|none=>false
def kF7 (l:List RI) (ms:List Nat):Nat→List RI→Bool
 | _,[]=>true
 | k,i::r =>
 (match i.dst with
 | some d=>writer l d==some k
 | none=>false) &&
 (i.reads.all fun t=>match writer l t with
 | some j=>decide (j<k)&&(ms.getD k 0).testBit j
 | none=>true) &&
 kF7 l ms (k+1) r
def mkDI (l:List RI) (ms:List Nat):Nat→List RI→List DI
 | _,[]=>[]
 | k,i::r=>⟨i,yC i.k,(List.range k).filter fun j=>(ms.getD k 0).testBit j&&(match l[j]? with|some x=>yC x.k|none=>false)⟩::mkDI l ms (k+1) r
def kF8 (ms:List Nat):Nat→List RI→Bool
 | _,[]=>true
 | k,_::r=>(List.range k).all (fun j=>(ms.getD k 0).testBit j)&&kF8 ms (k+1) r
def acyclic:Nat→List Oper→Bool
 | _,[]=>true
 | k,o::r=>(o.after.toList.all fun e=>!Region.binds .any e||decide (e.on<k))&&acyclic (k+1) r
def jG (f:RK→Bool):List RI→List RI×List RI
 | []=>([],[])
 | i::r=>if f i.k then ([],i::r) else let (a,b):=jG f r;(i::a,b)
def isStore:RK→Bool
 | .st _ _ _|.copy _ _ _=>true
 | _=>false
def kDP (ops:Array Oper) (l:List RI) (f:RK→Bool):Option (List DI×List RI) :=
 if kF7 (jG f l).1 (masks ops.toList []) 0 (jG f l).1&&kF8 (masks ops.toList []) (jG f l).1.length (jG f l).2&&acyclic 0 ops.toList then
 some (mkDI (jG f l).1 (masks ops.toList []) 0 (jG f l).1,(jG f l).2)
 else none
def kF9 (P:Program) (nt:Nat) (ops:Array Oper):Option (List DI×List RI) :=
 match ops.toList.mapM (kDB P nt ops) with
 | none=>none
 | some l=>match kDP ops l isSink with
 | some r=>some r
 | none=>kDP ops l isStore
theorem uB (f:RK→Bool) :∀l:List RI,(jG f l).1++(jG f l).2=l
 | []=>rfl
 | i::r=>by
   unfold jG
   split
   ·rfl
   ·have:=uB f r
    simp only [List.cons_append,this]
theorem kBL {l:List RI} {t k:Nat} (h:writer l t=some k) :∃i,l[k]?=some i∧i.dst=some t:=by
 unfold writer at h
 rw [List.findIdx?_eq_some_iff_getElem] at h
 obtain ⟨hk,hp,-⟩:=h
 refine ⟨l[k],by simp [hk],?_⟩
 revert hp
 cases l[k].dst<;>simp
theorem yM {l:List RI} {ms:List Nat} :∀(r:List RI) (k:Nat),kF7 l ms k r=true →∀j i,r[j]?=some i →
  (∃d,i.dst=some d∧writer l d=some (k+j)) ∧∀t∈i.reads,∀m,writer l t=some m→m<k+j∧(ms.getD (k+j) 0).testBit m=true:=by
 intro r
 induction r with
 | nil=>intro k _ j i h;simp at h
 | cons i r ih =>
   intro k h j x hx
   simp only [kF7,Bool.and_eq_true,List.all_eq_true] at h
   obtain ⟨⟨h1,h2⟩,h3⟩:=h
   cases j with
   | zero =>
     simp only [List.getElem?_cons_zero,Option.some.injEq] at hx;subst hx
     refine ⟨?_,fun t ht m hm=>?_⟩
     ·cases hd:i.dst with
      | none=>simp [hd] at h1
      | some d=>exact ⟨d,rfl,by simpa [hd] using h1⟩
     ·have:=h2 t ht
      rw [hm] at this;simp only [Bool.and_eq_true,decide_eq_true_eq] at this
      exact this
   | succ j =>
     have:=ih (k+1) h3 j x (by simpa using hx)
     rw [show k+1+j=k+(j+1) by omega] at this
     exact this
theorem kB7 {l:List RI} {ms:List Nat} :∀(r:List RI) (k j:Nat),(mkDI l ms k r)[j]?=(r[j]?).map fun i =>
 ⟨i,yC i.k,(List.range (k+j)).filter fun m=>(ms.getD (k+j) 0).testBit m&&(match l[m]? with|some x=>yC x.k|none=>false)⟩:=by
 intro r
 induction r with
 | nil=>intro k j;simp [mkDI]
 | cons i r ih =>
 intro k j
 cases j with
 | zero=>simp [mkDI]
 | succ j =>
 simp only [mkDI,List.getElem?_cons_succ,ih]
 rw [show k+1+j=k+(j+1) by omega]
theorem kDC {ms:List Nat} :∀(r:List RI) (k:Nat),kF8 ms k r=true →∀j,j<r.length →∀m,m<k+j→(ms.getD (k+j) 0).testBit m=true:=by
 intro r
 induction r with
 | nil=>intro k _ j hj;simp at hj
 | cons i r ih =>
 intro k h j hj m hm
 simp only [kF8,Bool.and_eq_true,List.all_eq_true,List.mem_range] at h
 cases j with
 | zero=>exact h.1 m (by simpa using hm)
 | succ j =>
 have:=ih (k+1) h.2 j (by simpa using hj) m (by omega)
 rw [show k+1+j=k+(j+1) by omega] at this
 exact this
theorem kMQ {g:Option (Nat×Bool)} {σ σ':Sl} (h :∀t∈kD7 g,σ t=σ' t):gOk g σ=gOk g σ':=by
 cases g with
 | none=>rfl
 | some p=>obtain ⟨d,b⟩:=p;simp only [gOk,h d (by simp [kD7])]
theorem wK {i:RI} {σ σ':Sl} (h :∀t∈i.reads,σ t=σ' t) :∀x∈i.k.opds,ev σ x=ev σ' x:=by
 intro x hx
 refine kOW fun t ht=>h t ?_
 simp only [RI.reads,List.mem_append,List.mem_flatMap]
 exact .inl ⟨x,hx,ht⟩
theorem zG {i:RI} {σ σ':Sl} (h :∀t∈i.reads,σ t=σ' t):gOk i.guard σ=gOk i.guard σ' :=
 kMQ fun t ht=>h t (by simp only [RI.reads,List.mem_append];exact .inr ht)
section
variable {P:Program} {nt:Nat} {ops:Array Oper} {pre sinks:List RI} {ms:List Nat} {R:World→World→Prop} {Φ:Nat→Value→World→Prop} {N:Nat→World→Prop} {σ0:Sl} {w0:World} {E:Sl→Prop}
structure InvA (P:Program) (nt:Nat) (ops:Array Oper) (pre:List RI) (R:World→World→Prop) (Φ:Nat→Value→World→Prop) (N:Nat→World→Prop) (σ0:Sl) (w0:World) (listed:Array Bool) (a:Act) (w:World):Prop where
 good:Good nt a
 closed:Closed ops listed
 nosink :∀j,pre.length≤j→listed.getD j false=false
 below:R w0 w
 fold :∀t,writer pre t=none→slots a t=σ0 t
 fnode :∀j i d,pre[j]?=some i→listed.getD j false=true→i.dst=some d→gOk i.guard (slots a)=true→yC i.k=true→Φ j (slots a d) w
 fpure :∀j i d,pre[j]?=some i→listed.getD j false=true→i.dst=some d→gOk i.guard (slots a)=true→yC i.k=false→i.k.val? (slots a) w=some (slots a d)
 fskip :∀j i d,pre[j]?=some i→listed.getD j false=true→i.dst=some d→gOk i.guard (slots a)=false→slots a d=undef
 fnew :∀j,listed.getD j false=false→N j w
theorem kD8 {α:Type} {l:List α} {k:Nat} {x:α} (h:l[k]?=some x):l.drop k=x::l.drop (k+1):=by
 have hk:k<l.length:=by
  rcases Nat.lt_or_ge k l.length with h'|h'
  ·exact h'
  ·rw [List.getElem?_eq_none h'] at h;simp at h
 rw [List.drop_eq_getElem_cons hk]
 congr 1
 rw [List.getElem?_eq_getElem hk] at h
 exact Option.some.inj h
theorem kQH (hpre:kF7 pre ms 0 pre=true) (hms :∀i m,ms[i]?=some m →∀j,m.testBit j=true→Reach ops j i)
  (hrefl :∀w,R w w) (htr :∀u v w,R u v→R v w→R u w) (hst :∀j v w w',Φ j v w→R w w'→Φ j v w')
  {listed:Array Bool} {a:Act} {w:World} (hI:InvA P nt ops pre R Φ N σ0 w0 listed a w)
  (hwalk:walk P (mkDI pre ms 0 pre) R Φ N w0 E 0 (mkDI pre ms 0 pre) σ0) :∀k,k≤pre.length →
  ∃σ wk,R w wk∧walk P (mkDI pre ms 0 pre) R Φ N w0 E k ((mkDI pre ms 0 pre).drop k) σ∧(∀t,writer pre t=none→σ t=σ0 t) ∧
   (∀j,j<k→listed.getD j false=true →∀i d,pre[j]?=some i→i.dst=some d→σ d=slots a d) ∧
   (∀j,j<k →∀i d,pre[j]?=some i→i.dst=some d→yC i.k=true→gOk i.guard σ=true→Φ j (σ d) wk)∧(∀j,k≤j→listed.getD j false=false→N j wk):=by
 have hbit :∀{k j:Nat},(ms.getD k 0).testBit j=true→Reach ops j k:=by
  intro k j h
  cases hg:ms[k]? with
  | none=>simp [List.getD,hg] at h
  | some m=>simp [List.getD,hg] at h;exact hms _ _ hg _ h
 have hcl :∀j k,listed.getD j false=true→Reach ops k j→listed.getD k false=true :=
  fun j k hj hr=>hI.closed.reach hr (fun o ho e he hb=>hI.closed j o ho hj e he hb)
 intro k
 induction k with
 | zero=>intro _;exact ⟨σ0,w,hrefl w,by simpa using hwalk,fun _ _=>rfl,fun j hj=>by omega,fun j hj=>by omega,fun j _ hj=>hI.fnew j hj⟩
 | succ k ih =>
   intro hk
   obtain ⟨σ,wk,hRk,hw,h1,h2,h3,h4⟩:=ih (by omega)
   obtain ⟨i,hi⟩ :∃i,pre[k]?=some i:=⟨pre[k],by simp [show k<pre.length by omega]⟩
   obtain ⟨⟨d,hd,hwr⟩,hreads⟩:=yM pre 0 hpre k i hi
   simp only [Nat.zero_add] at hwr hreads
   have hdi:(mkDI pre ms 0 pre)[k]?=some ⟨i,yC i.k,(List.range k).filter fun m=>(ms.getD k 0).testBit m&&(match pre[m]? with|some x=>yC x.k|none=>false)⟩:=by
    rw [kB7,hi];simp
   rw [kD8 hdi] at hw
   simp only [walk] at hw
   have hagree :∀j,j≤k→listed.getD j false=true →∀x,pre[j]?=some x →∀t∈x.reads,σ t=slots a t:=by
    intro j hj hDj x hx t ht
    cases hwt:writer pre t with
    | none=>rw [h1 t hwt,hI.fold t hwt]
    | some m =>
      obtain ⟨hm1,hm2⟩:=(yM pre 0 hpre j x hx).2 t ht m hwt
      simp only [Nat.zero_add] at hm1 hm2
      obtain ⟨y,hy,hyd⟩:=kBL hwt
      exact h2 m (by omega) (hcl _ _ hDj (hbit hm2)) y t hy hyd
   have hne :∀j i' d',j<k→pre[j]?=some i'→i'.dst=some d'→d'≠d:=by
    intro j i' d' hjk hi' hd' e
    obtain ⟨⟨d'',hd'',hwr'⟩,-⟩:=yM pre 0 hpre j i' hi'
    rw [hd'] at hd'';cases hd''
    rw [e,hwr] at hwr'
    simp at hwr';omega
   have hrd :∀j i',j≤k→pre[j]?=some i' →∀v,∀t∈i'.reads,updo σ (some d) v t=σ t:=by
    intro j i' hjk hi' v t ht
    refine upd_ne _ _ (fun e=>?_)
    subst e
    have:=((yM pre 0 hpre j i' hi').2 t ht k hwr).1
    omega
   have hset :∀(v:Value) (wk':World),R wk wk'→(listed.getD k false=true→v=slots a d)→(yC i.k=true→gOk i.guard σ=true→Φ k v wk') →
     (∀t,writer pre t=none→updo σ (some d) v t=σ0 t)∧(∀j,j<k+1→listed.getD j false=true →∀i' d',pre[j]?=some i'→i'.dst=some d'→updo σ (some d) v d'=slots a d') ∧
     (∀j,j<k+1 →∀i' d',pre[j]?=some i'→i'.dst=some d'→yC i'.k=true→gOk i'.guard (updo σ (some d) v)=true→Φ j (updo σ (some d) v d') wk'):=by
    intro v wk' hR' hv hΦ
    refine ⟨fun t ht=>?_,fun j hj hDj i' d' hi' hd'=>?_,fun j hj i' d' hi' hd' hn hg=>?_⟩
    ·have:t≠d:=fun e=>by rw [e,hwr] at ht;simp at ht
     simp only [updo,upd_ne _ _ this];exact h1 t ht
    ·by_cases hjk:j=k
     ·subst hjk
      rw [hi] at hi';cases hi'
      rw [hd] at hd';cases hd'
      simp only [updo,upd_same];exact hv hDj
     ·simp only [updo,upd_ne _ _ (hne j i' d' (by omega) hi' hd')]
      exact h2 j (by omega) hDj i' d' hi' hd'
    ·rw [zG (hrd j i' (by omega) hi' v)] at hg
     by_cases hjk:j=k
     ·subst hjk
      rw [hi] at hi';cases hi'
      rw [hd] at hd';cases hd'
      simp only [updo,upd_same];exact hΦ hn hg
     ·simp only [updo,upd_ne _ _ (hne j i' d' (by omega) hi' hd')]
      exact hst _ _ _ _ (h3 j (by omega) i' d' hi' hd' hn hg) hR'
   have hdeps :∀wx,(∀j,j<k→(ms.getD k 0).testBit j=true →∀y t,pre[j]?=some y→y.dst=some t→yC y.k=true→gOk y.guard σ=true→Φ j (σ t) wx) →
     known (mkDI pre ms 0 pre) Φ ((List.range k).filter fun m=>(ms.getD k 0).testBit m&&(match pre[m]? with|some x=>yC x.k|none=>false)) σ wx:=by
    intro wx hx j hj dj hdj _ hg t ht
    simp only [List.mem_filter,List.mem_range,Bool.and_eq_true] at hj
    obtain ⟨hjk,hb,hnode⟩:=hj
    cases hy:pre[j]? with
    | none=>simp [hy] at hnode
    | some y =>
      rw [kB7,hy] at hdj
      simp only [Option.map_some,Option.some.injEq] at hdj
      subst hdj
      simp only [hy] at hnode hg ht
      exact hx j hjk hb y t hy ht hnode hg
   by_cases hg:gOk i.guard σ=true
   ·rw [if_pos hg] at hw
    by_cases hn:yC i.k=true
    ·rw [if_pos hn] at hw
     by_cases hl:listed.getD k false=true
     ·have hgx:=zG (hagree k (Nat.le_refl _) hl i hi)
      have hΦ:=hI.fnode k i d hi hl hd (by rw [←hgx];exact hg) hn
      have hs:=hset (slots a d) wk (hrefl wk) (fun _=>rfl) (fun _ _=>hst _ _ _ _ hΦ hRk)
      refine ⟨_,wk,hRk,hw.2 (slots a d) ⟨w,hΦ⟩,?_⟩
      rw [hd];exact ⟨hs.1,hs.2.1,hs.2.2,fun j hj=>h4 j (by omega)⟩
     ·obtain ⟨v,w',hR',hΦ,hN⟩:=kLL (hw.1 wk (htr _ _ _ hI.below hRk) (h4 k (Nat.le_refl _) (by simpa using hl)) (hdeps wk fun j hjk _ y t hy ht hn hg=>h3 j hjk y t hy ht hn hg))
      have hs:=hset v w' hR' (fun h=>absurd h hl) (fun _ _=>hΦ)
      refine ⟨_,w',htr _ _ _ hRk hR',hw.2 v ⟨w',hΦ⟩,?_⟩
      rw [hd];exact ⟨hs.1,hs.2.1,hs.2.2,fun j hj hlj=>hN j (by omega) (h4 j (by omega) hlj)⟩
    ·rw [if_neg hn] at hw
     obtain ⟨v,hv,hw'⟩:=hw
     have hs:=hset v wk (hrefl wk) (fun hl=>by
      have h4:=hv w hI.below (hdeps w fun j hjk hb y t hy ht hny hgy=>by
       have hlj:=hcl _ _ hl (hbit hb)
       have hgx:=zG (hagree j (by omega) hlj y hy)
       rw [h2 j hjk hlj y t hy ht]
       exact hI.fnode j y t hy hlj ht (by rw [←hgx];exact hgy) hny)
      rw [kAB (wK (hagree k (Nat.le_refl _) hl i hi))] at h4
      have hgx:=zG (hagree k (Nat.le_refl _) hl i hi)
      have:=hI.fpure k i d hi hl hd (by rw [←hgx];exact hg) (by simpa using hn)
      rw [this] at h4
      exact (Option.some.inj h4).symm) (fun h=>absurd h hn)
     refine ⟨_,wk,hRk,hw',?_⟩
     rw [hd];exact ⟨hs.1,hs.2.1,hs.2.2,fun j hj=>h4 j (by omega)⟩
   ·rw [if_neg hg] at hw
    have hs:=hset undef wk (hrefl wk) (fun hl=>by
     have hgx:=zG (hagree k (Nat.le_refl _) hl i hi)
     exact (hI.fskip k i d hi hl hd (by rw [←hgx];simpa using hg)).symm) (fun _ h=>absurd h hg)
    refine ⟨_,wk,hRk,hw,?_⟩
    rw [hd];exact ⟨hs.1,hs.2.1,hs.2.2,fun j hj=>h4 j (by omega)⟩
theorem kQI (hpre:kF7 pre ms 0 pre=true) (hms :∀i m,ms[i]?=some m →∀j,m.testBit j=true→Reach ops j i)
  (hrefl :∀w,R w w) (htr :∀u v w,R u v→R v w→R u w) (hst :∀j v w w',Φ j v w→R w w'→Φ j v w')
  {listed:Array Bool} {a:Act} {w:World} (hI:InvA P nt ops pre R Φ N σ0 w0 listed a w)
  (hwalk:walk P (mkDI pre ms 0 pre) R Φ N w0 E 0 (mkDI pre ms 0 pre) σ0) {i:Nat} {x:RI} (hx:pre[i]?=some x)
  (hr :∀m,Reach ops m i→listed.getD m false=true) :
  ∃σ deps,(∀t∈x.reads,σ t=slots a t)∧(∀w',R w w'→known (mkDI pre ms 0 pre) Φ deps σ w') ∧
   (gOk x.guard σ=true→(yC x.k=true →∀w,R w0 w→N i w→known (mkDI pre ms 0 pre) Φ deps σ w→x.k.run P σ w fun v w'=>R w w'∧Φ i v w' ∧∀j,j≠i→N j w→N j w') ∧
    (yC x.k=false →∃v,∀w,R w0 w→known (mkDI pre ms 0 pre) Φ deps σ w→x.k.val? σ w=some v)):=by
 have hbit :∀{k j:Nat},(ms.getD k 0).testBit j=true→Reach ops j k:=by
  intro k j h
  cases hg:ms[k]? with
  | none=>simp [List.getD,hg] at h
  | some m=>simp [List.getD,hg] at h;exact hms _ _ hg _ h
 have hip:i<pre.length:=by
  rcases Nat.lt_or_ge i pre.length with h|h
  ·exact h
  ·rw [List.getElem?_eq_none h] at hx;simp at hx
 have hr':=hr
 obtain ⟨σ,wk,hRk,hw,h1,h2,-,-⟩:=kQH hpre hms hrefl htr hst hI hwalk i (by omega)
 have hdi:(mkDI pre ms 0 pre)[i]?=some ⟨x,yC x.k,(List.range i).filter fun m=>(ms.getD i 0).testBit m&&(match pre[m]? with|some x=>yC x.k|none=>false)⟩:=by
  rw [kB7,hx];simp
 rw [kD8 hdi] at hw
 simp only [walk] at hw
 have hag :∀j,(j=i∨Reach ops j i)→j≤i →∀y,pre[j]?=some y →∀t∈y.reads,σ t=slots a t:=by
  intro j hj hji y hy t ht
  cases hwt:writer pre t with
  | none=>rw [h1 t hwt,hI.fold t hwt]
  | some m =>
    obtain ⟨hm1,hm2⟩:=(yM pre 0 hpre j y hy).2 t ht m hwt
    simp only [Nat.zero_add] at hm1 hm2
    obtain ⟨z,hz,hzd⟩:=kBL hwt
    have hr:Reach ops m i:=by
     rcases hj with rfl|hj
     ·exact hbit hm2
     ·exact (hbit hm2).trans hj
    exact h2 m (by omega) (hr' m hr) z t hz hzd
 refine ⟨σ,(List.range i).filter fun m=>(ms.getD i 0).testBit m&&(match pre[m]? with|some x=>yC x.k|none=>false),hag i (.inl rfl) (Nat.le_refl _) x hx,?_,?_⟩
 rotate_left
 ·intro hg
  rw [if_pos hg] at hw
  refine ⟨fun hn=>?_,fun hn=>?_⟩
  ·rw [if_pos hn] at hw;exact hw.1
  ·rw [if_neg (by rw [hn];simp)] at hw
   obtain ⟨v,hv,-⟩:=hw
   exact ⟨v,hv⟩
 ·intro w' hR j hj dj hdj _ hg t ht
  simp only [List.mem_filter,List.mem_range,Bool.and_eq_true] at hj
  obtain ⟨hjk,hb,hnode⟩:=hj
  have hrj:=hbit hb
  cases hy:pre[j]? with
  | none=>simp [hy] at hnode
  | some y =>
    rw [kB7,hy] at hdj
    simp only [Option.map_some,Option.some.injEq] at hdj
    subst hdj
    simp only [hy] at hnode hg ht
    have hgy:=zG (hag j (.inr hrj) (by omega) y hy)
    rw [h2 j hjk (hr' j hrj) y t hy ht]
    exact hst _ _ _ _ (hI.fnode j y t hy (hr j hrj) ht (by rw [←hgy];exact hg) hnode) hR
theorem kMR (hpre:kF7 pre ms 0 pre=true) (hms :∀i m,ms[i]?=some m →∀j,m.testBit j=true→Reach ops j i)
 (hrefl :∀w,R w w) (htr :∀u v w,R u v→R v w→R u w) (hst :∀j v w w',Φ j v w→R w w'→Φ j v w')
 {listed:Array Bool} {a:Act} {w w':World} (hI:InvA P nt ops pre R Φ N σ0 w0 listed a w) (hR:R w w')
 (hwalk:walk P (mkDI pre ms 0 pre) R Φ N w0 E 0 (mkDI pre ms 0 pre) σ0) {j:Nat} {y:RI} {d:Nat} (hy:pre[j]?=some y) (hl:listed.getD j false=true)
 (hd:y.dst=some d) (hg:gOk y.guard (slots a)=true) (hn:yC y.k=false):y.k.val? (slots a) w'=some (slots a d):=by
 obtain ⟨σ,deps,hag,hk,hw⟩:=kQI hpre hms hrefl htr hst hI hwalk hy (fun m hm=>hI.closed.reach hm (fun o ho e he hb=>hI.closed j o ho hl e he hb))
 have hgx:=zG hag
 obtain ⟨v,hv⟩:=(hw (by rw [hgx];exact hg)).2 hn
 have h1:=hv w hI.below (hk w (hrefl w))
 have h2:=hv w' (htr _ _ _ hI.below hR) (hk w' hR)
 rw [kAB (wK hag)] at h1 h2
 rw [hI.fpure j y d hy hl hd hg hn] at h1
 rw [h2];exact h1.symm
theorem yF {listed:Array Bool} {i j:Nat} (hi:i<listed.size):(listed.setIfInBounds i true).getD j false=if j=i then true else listed.getD j false:=by
 simp only [Array.getD_eq_getD_getElem?]
 by_cases h:j=i
 ·subst h;simp [hi]
 ·rw [if_neg h,Array.getElem?_setIfInBounds_ne (fun e=>h e.symm)]
theorem Closed.step {listed:Array Bool} {i:Nat} (h:Closed ops listed) (hi:i<listed.size)
  (hd :∀o,ops[i]?=some o →∀e∈o.after,Region.binds .any e=true→listed.getD e.on false=true):Closed ops (listed.setIfInBounds i true):=by
 intro j o ho hj e he hb
 rw [yF hi] at hj ⊢
 by_cases hji:j=i
 ·subst hji
  have:=hd o ho e he hb
  split
  ·rfl
  ·exact this
 ·rw [if_neg hji] at hj
  have:=h j o ho hj e he hb
  split
  ·rfl
  ·exact this
theorem InvA.step (hpre:kF7 pre ms 0 pre=true) (hms :∀i m,ms[i]?=some m →∀j,m.testBit j=true→Reach ops j i)
  (_hops :∀j,j<pre.length →∃o,ops[j]?=some o)
  {listed:Array Bool} {a:Act} {w w':World} (hI:InvA P nt ops pre R Φ N σ0 w0 listed a w) {i:Nat} {x:RI} {d:Nat} {v:Value}
  (hls:i<listed.size) (hnl:listed.getD i false=false)
  (hd :∀o,ops[i]?=some o →∀e∈o.after,Region.binds .any e=true→listed.getD e.on false=true)
  (hx:pre[i]?=some x) (hxd:x.dst=some d) (hdn:d<nt) (hrefl :∀w,R w w) (htr :∀u v w,R u v→R v w→R u w) (hst :∀j v w w',Φ j v w→R w w'→Φ j v w')
  (hwalk:walk P (mkDI pre ms 0 pre) R Φ N w0 E 0 (mkDI pre ms 0 pre) σ0) (hB:R w w')
  (f1:gOk x.guard (slots a)=true→yC x.k=true→Φ i v w') (f2:gOk x.guard (slots a)=true→yC x.k=false→x.k.val? (slots a) w'=some v)
  (f3:gOk x.guard (slots a)=false→v=undef) (hN :∀j,j≠i→N j w→N j w') :
  InvA P nt ops pre R Φ N σ0 w0 (listed.setIfInBounds i true) (a.put (some d) v) w':=by
 have hbit :∀{k j:Nat},(ms.getD k 0).testBit j=true→Reach ops j k:=by
  intro k j h
  cases hg:ms[k]? with
  | none=>simp [List.getD,hg] at h
  | some m=>simp [List.getD,hg] at h;exact hms _ _ hg _ h
 have hip:i<pre.length:=by
  rcases Nat.lt_or_ge i pre.length with h|h
  ·exact h
  ·rw [List.getElem?_eq_none h] at hx;simp at hx
 have hwr:writer pre d=some i:=by
  obtain ⟨⟨d',hd',hwr⟩,-⟩:=yM pre 0 hpre i x hx
  rw [hxd] at hd';cases hd';simpa using hwr
 have hsl:slots (a.put (some d) v)=upd (slots a) d v:=kAC (fun t ht=>by cases ht;rw [hI.good.1];exact hdn)
 -- what a listed operation, or this one, reads is not written
 have hreads :∀j y,pre[j]?=some y→(listed.getD j false=true∨j=i) →∀t∈y.reads,upd (slots a) d v t=slots a t:=by
  intro j y hy hj t ht
  refine upd_ne _ _ (fun e=>?_)
  subst e
  obtain ⟨hm1,hm2⟩:=(yM pre 0 hpre j y hy).2 t ht i hwr
  simp only [Nat.zero_add] at hm1 hm2
  rcases hj with hj|hj
  ·have hr:=hbit hm2
   have:=hI.closed.reach hr (fun o ho e he hb=>hI.closed j o ho hj e he hb)
   rw [hnl] at this;simp at this
  ·omega
 have hother :∀j y d',pre[j]?=some y→y.dst=some d'→j≠i→upd (slots a) d v d'=slots a d':=by
  intro j y d' hy hd' hji
  refine upd_ne _ _ (fun e=>?_)
  obtain ⟨⟨d'',hd'',hwr'⟩,-⟩:=yM pre 0 hpre j y hy
  rw [hd'] at hd'';cases hd''
  rw [e,hwr] at hwr';simp at hwr';omega
 have hlist :∀j,(listed.setIfInBounds i true).getD j false=true→j≠i→listed.getD j false=true:=by
  intro j hj hji;rw [yF hls,if_neg hji] at hj;exact hj
 refine ⟨hI.good.put _ _,hI.closed.step hls hd,fun j hj=>?_,htr _ _ _ hI.below hB,fun t ht=>?_,?_,?_,?_,fun j hj=>?_⟩
 ·rw [yF hls,if_neg (by omega)];exact hI.nosink j hj
 ·rw [hsl,upd_ne _ _ (fun e=>by rw [e,hwr] at ht;simp at ht)];exact hI.fold t ht
 ·intro j y d' hy hj hd' hg hn
  rw [hsl] at hg ⊢
  by_cases hji:j=i
  ·subst hji
   rw [hx] at hy;cases hy;rw [hxd] at hd';cases hd'
   rw [zG (hreads j x hx (.inr rfl))] at hg
   rw [upd_same];exact f1 hg hn
  ·have hjl:=hlist j hj hji
   rw [zG (hreads j y hy (.inl hjl))] at hg
   rw [hother j y d' hy hd' hji]
   exact hst _ _ _ _ (hI.fnode j y d' hy hjl hd' hg hn) hB
 ·intro j y d' hy hj hd' hg hn
  rw [hsl] at hg ⊢
  by_cases hji:j=i
  ·subst hji
   rw [hx] at hy;cases hy;rw [hxd] at hd';cases hd'
   rw [zG (hreads j x hx (.inr rfl))] at hg
   rw [upd_same,kAB (wK (hreads j x hx (.inr rfl)))];exact f2 hg hn
  ·have hjl:=hlist j hj hji
   rw [zG (hreads j y hy (.inl hjl))] at hg
   rw [hother j y d' hy hd' hji,kAB (wK (hreads j y hy (.inl hjl)))]
   exact kMR hpre hms hrefl htr hst hI hB hwalk hy hjl hd' hg hn
 ·intro j y d' hy hj hd' hg
  rw [hsl] at hg ⊢
  by_cases hji:j=i
  ·subst hji
   rw [hx] at hy;cases hy;rw [hxd] at hd';cases hd'
   rw [zG (hreads j x hx (.inr rfl))] at hg
   rw [upd_same];exact f3 hg
  ·have hjl:=hlist j hj hji
   rw [zG (hreads j y hy (.inl hjl))] at hg
   rw [hother j y d' hy hd' hji]
   exact hI.fskip j y d' hy hjl hd' hg
 ·rw [yF hls] at hj
  split at hj
  ·simp at hj
  ·rename_i hji;exact hN j hji (hI.fnew j hj)
structure InvB (P:Program) (nt:Nat) (pre sinks:List RI) (Q:Sl→World→Prop) (m:Nat) (listed:Array Bool) (a:Act) (w:World):Prop where
 good:Good nt a
 le:m≤sinks.length
 done :∀j,j<pre.length+m→listed.getD j false=true
 left :∀j,pre.length+m≤j→listed.getD j false=false
 wp:wpR P (sinks.drop m) (slots a) w Q
theorem kHK (hpre:kF7 pre ms 0 pre=true) (hms :∀i m,ms[i]?=some m →∀j,m.testBit j=true→Reach ops j i)
  (hrefl :∀w,R w w) (htr :∀u v w,R u v→R v w→R u w) (hst :∀j v w w',Φ j v w→R w w'→Φ j v w') {Q:Sl→World→Prop}
  {listed:Array Bool} {a:Act} {w:World} (hI:InvA P nt ops pre R Φ N σ0 w0 listed a w) (hall :∀j,j<pre.length→listed.getD j false=true)
  (hwalk:walk P (mkDI pre ms 0 pre) R Φ N w0 (fun σ' =>∀w,R w0 w→known (mkDI pre ms 0 pre) Φ (List.range (mkDI pre ms 0 pre).length) σ' w→wpR P sinks σ' w Q) 0 (mkDI pre ms 0 pre) σ0) :
  InvB P nt pre sinks Q 0 listed a w:=by
 obtain ⟨σ,wk,-,hw,h1,h2,-,-⟩:=kQH hpre hms hrefl htr hst hI hwalk pre.length (Nat.le_refl _)
 have hlen:(mkDI pre ms 0 pre).length=pre.length:=by
  have gen :∀(r:List RI) (k:Nat),(mkDI pre ms k r).length=r.length:=by
   intro r;induction r with
   | nil=>intro k;rfl
   | cons i r ih=>intro k;simp [mkDI,ih]
  exact gen _ _
 have hσ:σ=slots a:=by
  funext t
  cases hwt:writer pre t with
  | none=>rw [h1 t hwt,hI.fold t hwt]
  | some m =>
    obtain ⟨y,hy,hyd⟩:=kBL hwt
    have hm:m<pre.length:=by
     rcases Nat.lt_or_ge m pre.length with h|h
     ·exact h
     ·rw [List.getElem?_eq_none h] at hy;simp at hy
    exact h2 m hm (hall m hm) y t hy hyd
 subst hσ
 rw [List.drop_of_length_le (by omega)] at hw
 simp only [walk] at hw
 refine ⟨hI.good,Nat.zero_le _,fun j hj=>hall j (by omega),fun j hj=>hI.nosink j (by omega),?_⟩
 simp only [List.drop_zero]
 refine hw w hI.below ?_
 intro j hj dj hdj hn hg t ht
 simp only [List.mem_range] at hj
 rw [kB7] at hdj
 cases hx:pre[j]? with
 | none=>rw [hx] at hdj;simp at hdj
 | some x =>
   rw [hx] at hdj
   simp only [Option.map_some,Option.some.injEq] at hdj
   subst hdj
   simp only at hg ht hn
   exact hI.fnode j x t hx (hall j (by omega)) ht hg hn
theorem kA8 {md:Region.Mode} {listed:Array Bool} {j:Nat} (h:j∈Region.ready md ops listed) :
 j<ops.size∧listed.getD j true=false ∧∀o,ops[j]?=some o →∀e∈o.after,Region.binds md e=true→listed.getD e.on false=true:=by
 unfold Region.ready at h
 simp only [List.mem_filter,List.mem_range,Bool.and_eq_true,Bool.not_eq_true'] at h
 obtain ⟨h1,h2,h3⟩:=h
 refine ⟨h1,h2,fun o ho e he hb=>?_⟩
 rw [ho] at h3
 simp only [Option.map_some,Option.getD_some,Array.all_eq_true'] at h3
 have:=h3 e he
 simpa [hb] using this
theorem ready_nil {md:Region.Mode} {listed:Array Bool} (h:Region.ready md ops listed=[]) (hs:listed.size=ops.size)
  (hacyc :∀j o,ops[j]?=some o →∀e∈o.after,Region.binds md e=true→e.on<j) :∀j,j<ops.size→listed.getD j false=true:=by
 intro j
 induction j using Nat.strongRecOn with
 | _ j ih =>
   intro hj
   cases hl:listed.getD j false with
   | true=>rfl
   | false =>
     have:j∈Region.ready md ops listed:=by
      unfold Region.ready
      simp only [List.mem_filter,List.mem_range,Bool.and_eq_true,Bool.not_eq_true']
      refine ⟨hj,?_,?_⟩
      ·simp only [Array.getD_eq_getD_getElem?] at hl ⊢
       have:listed[j]?=some listed[j]:=by simp [show j<listed.size by omega]
       rw [this] at hl ⊢;simpa using hl
      ·have ho:ops[j]?=some ops[j]:=by simp [hj]
       rw [ho]
       simp only [Option.map_some,Option.getD_some,Array.all_eq_true']
       intro e he
       cases hb:Region.binds md e with
       | false=>rfl
       | true =>
         have hlt:=hacyc j _ ho e he hb
         simp [ih e.on hlt (by omega)]
     rw [h] at this;simp at this
theorem kHL {Q:Exit→Act→World→Prop} (I:Array Bool→Act→World→Prop)
  (hstep :∀listed a w,I listed a w→listed.size=ops.size →∀i∈Region.ready .any ops listed,wpOp P ops Q i (fun a w=>I (listed.setIfInBounds i true) a w) a w)
  (hend :∀listed a w,I listed a w→listed.size=ops.size→Region.ready .any ops listed=[]→Q .normal a w) :
  ∀(fuel:Nat) (listed:Array Bool) (a:Act) (w:World),I listed a w→listed.size=ops.size→listed.toList.count false≤fuel →
    wpAny P .any ops Q fuel listed a w:=by
 intro fuel
 induction fuel with
 | zero =>
   intro listed a w hI hs hc
   have hr:Region.ready .any ops listed=[]:=by
    rw [List.eq_nil_iff_forall_not_mem]
    intro j hj
    obtain ⟨h1,h2,-⟩:=kA8 hj
    have:false∈listed.toList:=by
     rw [Array.getD_eq_getD_getElem?,show listed[j]?=some listed[j] by simp [show j<listed.size by omega]] at h2
     simp only [Option.getD_some] at h2
     rw [←h2];simp
    have:=List.count_pos_iff.2 this
    omega
   exact ⟨hr,hend _ _ _ hI hs hr⟩
 | succ fuel ih =>
   intro listed a w hI hs hc
   refine ⟨hend _ _ _ hI hs,fun i hi=>?_⟩
   refine wpOp_mono (fun a' w' hI'=>ih _ _ _ hI' (by simpa using hs) ?_) (hstep _ _ _ hI hs i hi)
   obtain ⟨h1,h2,-⟩:=kA8 hi
   have hlt:i<listed.toList.length:=by simp;omega
   have hfalse:listed.toList[i]=false:=by
    rw [Array.getD_eq_getD_getElem?,show listed[i]?=some listed[i] by simp [show i<listed.size by omega]] at h2
    simpa using h2
   rw [Array.toList_setIfInBounds,List.count_set hlt,hfalse]
   have hpos:0<listed.toList.count false:=List.count_pos_iff.2 (hfalse▸List.getElem_mem hlt)
   generalize listed.toList.count false=c at hc hpos ⊢
   simp
   omega
theorem kDD :∀(r:List Oper) (k:Nat),acyclic k r=true →∀j o,r[j]?=some o →∀e∈o.after,Region.binds .any e=true→e.on<k+j:=by
 intro r
 induction r with
 | nil=>intro k _ j o h;simp at h
 | cons o r ih =>
   intro k h j x hx e he hb
   simp only [acyclic,Bool.and_eq_true,List.all_eq_true] at h
   cases j with
   | zero =>
     simp only [List.getElem?_cons_zero,Option.some.injEq] at hx;subst hx
     have:=h.1 e (by simpa using he)
     simpa [hb] using this
   | succ j =>
     have:=ih (k+1) h.2 j x (by simpa using hx) e he hb
     omega
theorem kHM {α β:Type} {f:α→Option β} :∀{l:List α} {r:List β},l.mapM f=some r→l.length=r.length ∧∀j:Nat,∀x,l[j]?=some x →∃y,r[j]?=some y∧f x=some y:=by
 intro l
 induction l with
 | nil=>intro r h;simp at h;subst h;exact ⟨rfl,fun j x h=>by simp at h⟩
 | cons a l ih =>
 intro r h
 simp only [List.mapM_cons,Option.bind_eq_bind,Option.pure_def] at h
 cases hf:f a with
 | none=>simp [hf] at h
 | some b =>
 cases hr:l.mapM f with
 | none=>simp [hf,hr] at h
 | some r' =>
 simp [hf,hr] at h
 subst h
 obtain ⟨h1,h2⟩:=ih hr
 refine ⟨by simp [h1],fun j x hx=>?_⟩
 cases j with
 | zero=>simp at hx;subst hx;exact ⟨b,rfl,hf⟩
 | succ j=>exact h2 j x (by simpa using hx)
theorem kLM (hm:P.follows .mixedOrders=true) {id:Nat} {dl:List DI} {a:Act} {w:World} {Q:Exit→Sl→World→Prop}
  (h:kF9 P nt ops=some (dl,sinks)) (ha:Good nt a) (hw:wpD P dl sinks (slots a) w.drew (Q .normal)) :
  (Code.region id ops true).wp P (onSl nt Q) a w:=by
 unfold kF9 at h
 split at h
 ·simp at h
 ·rename_i l hl
  have h :∃f,kDP ops l f=some (dl,sinks):=by
   split at h
   ·rename_i r hr;exact ⟨_,hr.trans h⟩
   ·exact ⟨_,h⟩
  obtain ⟨f,h⟩:=h
  unfold kDP at h
  split at h
  ·rename_i hc
   simp only [Option.some.injEq,Prod.mk.injEq] at h
   obtain ⟨hdl,hsk⟩:=h
   have happ:=uB f l
   generalize hpre':(jG f l).1=pre at *
   generalize hsk':(jG f l).2=sk at *
   subst hsk
   subst hdl
   simp only [Bool.and_eq_true] at hc
   obtain ⟨⟨hpre,hsinks⟩,hac⟩:=hc
   obtain ⟨hlen,hget⟩:=kHM hl
   generalize hms':masks ops.toList []=ms at *
   have hms :∀i m,ms[i]?=some m →∀j,m.testBit j=true→Reach ops j i:=by
    rw [←hms']
    exact kJF (ops:=ops) ops.toList [] (fun k=>by simp) (fun i m h=>by simp at h)
   have hbit :∀{k j:Nat},(ms.getD k 0).testBit j=true→Reach ops j k:=by
    intro k j h
    cases hg:ms[k]? with
    | none=>simp [List.getD,hg] at h
    | some m=>simp [List.getD,hg] at h;exact hms _ _ hg _ h
   have hacyc :∀j o,ops[j]?=some o →∀e∈o.after,Region.binds .any e=true→e.on<j:=by
    intro j o ho e he hb
    have:=kDD ops.toList 0 hac j o (by simpa using ho) e he hb
    omega
   have hops :∀j,j<ops.size →∃o i,ops[j]?=some o∧(pre++sk)[j]?=some i∧kDB P nt ops o=some i:=by
    intro j hj
    have ho:ops[j]?=some ops[j]:=by simp [hj]
    obtain ⟨i,hi,hf⟩:=hget j ops[j] (by simp [hj])
    exact ⟨_,i,ho,by rw [happ];exact hi,hf⟩
   have hsize:ops.size=pre.length+sk.length:=by
    have:ops.toList.length=l.length:=hlen
    rw [←happ] at this;simpa using this
   obtain ⟨R,Φ,N,hrefl,htr,hst,hN0,hwalk⟩:=hw
   generalize hσ0:slots a=σ0 at hwalk
   refine wp_region_any hm (kHL (I:=fun listed a w'=>InvA P nt ops pre R Φ N σ0 w.drew listed a w' ∨∃m,InvB P nt pre sk (Q .normal) m listed a w') ?_ ?_ _ _ _ _ (.inl ?_) (by simp) (by simp))
   · -- a step
    intro listed a w' hI hls i hi
    obtain ⟨hi1,hi2,hi3⟩:=kA8 hi
    obtain ⟨o,x,ho,hx,hlift⟩:=hops i hi1
    have hnl:listed.getD i false=false:=by
     rw [Array.getD_eq_getD_getElem?,show listed[i]?=some listed[i] by simp [show i<listed.size by omega]] at hi2 ⊢
     simpa using hi2
    -- a sink's step
    have hB :∀m,InvB P nt pre sk (Q .normal) m listed a w'→wpOp P ops (onSl nt Q) i (fun a' w''=>InvA P nt ops pre R Φ N σ0 w.drew (listed.setIfInBounds i true) a' w'' ∨∃m,InvB P nt pre sk (Q .normal) m (listed.setIfInBounds i true) a' w'') a w':=by
     intro m hb
     have him:i=pre.length+m:=by
      have h1 :¬i<pre.length+m:=fun h=>by rw [hb.done i h] at hnl;simp at hnl
      rcases Nat.lt_or_ge (pre.length+m) i with h2|h2
      ·have hb2:=kDC sk pre.length hsinks (i-pre.length) (by omega) (pre.length+m) (by omega)
       rw [show pre.length+(i-pre.length)=i by omega] at hb2
       have hr:=hbit hb2
       have hcl:Closed ops listed:=by
        intro j o' ho' hj e he hbb
        have hj':j<pre.length+m:=by
         rcases Nat.lt_or_ge j (pre.length+m) with h|h
         ·exact h
         ·rw [hb.left j h] at hj;simp at hj
        exact hb.done _ (by have:=hacyc j o' ho' e he hbb;omega)
       have:=hcl.reach hr (fun o' ho' e he hbb=>hi3 o' ho' e he hbb)
       rw [hb.left _ (Nat.le_refl _)] at this;simp at this
      ·omega
     subst him
     have hsx:sk[m]?=some x:=by
      rw [List.getElem?_append_right (by omega)] at hx
      simpa using hx
     have hwp:=hb.wp
     rw [kD8 hsx] at hwp
     simp only [wpR,RI.wp] at hwp
     have h3:=(uN hlift).2.2.1
     have hnext :∀v w'',wpR P (sk.drop (m+1)) (updo (slots a) x.dst v) w'' (Q .normal) →
       (InvA P nt ops pre R Φ N σ0 w.drew (listed.setIfInBounds (pre.length+m) true) (a.put x.dst v) w'' ∨∃m',InvB P nt pre sk (Q .normal) m' (listed.setIfInBounds (pre.length+m) true) (a.put x.dst v) w''):=by
      intro v w'' hv
      refine .inr ⟨m+1,hb.good.put _ _,?_,fun j hj=>?_,fun j hj=>?_,?_⟩
      ·have:m<sk.length:=by
        rcases Nat.lt_or_ge m sk.length with h|h
        ·exact h
        ·rw [List.getElem?_eq_none h] at hsx;simp at hsx
       omega
      ·rw [yF (by omega)]
       split
       ·rfl
       ·exact hb.done j (by omega)
      ·rw [yF (by omega),if_neg (by omega)];exact hb.left j (by omega)
      ·rw [kAC (fun t ht=>by rw [hb.good.1];exact h3 t ht)];exact hv
     refine kJE ho hlift hb.good ?_
     split at hwp
     ·rename_i hg;rw [if_pos hg];exact vO hwp (fun v w''=>hnext v w'')
     ·rename_i hg;rw [if_neg hg];exact hnext _ _ hwp
    rcases hI with hI|⟨m,hI⟩
    ·by_cases hip:i<pre.length
     · -- a step ahead of the sinks
      have hxp:pre[i]?=some x:=by rw [List.getElem?_append_left hip] at hx;exact hx
      obtain ⟨⟨d,hd,hwr⟩,hreads⟩:=yM pre 0 hpre i x hxp
      simp only [Nat.zero_add] at hwr hreads
      have h3:=(uN hlift).2.2.1
      have hdn:=h3 d hd
      obtain ⟨σ,deps,hagx,hkn,hw⟩:=kQI hpre hms hrefl htr hst hI hwalk hxp (fun m hm=>hI.closed.reach hm hi3)
      have hgx:=zG hagx
      have hknown:=hkn w' (hrefl w')
      have hstep :∀v w'',R w' w''→(gOk x.guard (slots a)=true→yC x.k=true→Φ i v w'') →
        (gOk x.guard (slots a)=true→yC x.k=false→x.k.val? (slots a) w''=some v)→(gOk x.guard (slots a)=false→v=undef)→(∀j,j≠i→N j w'→N j w'') →
        (InvA P nt ops pre R Φ N σ0 w.drew (listed.setIfInBounds i true) (a.put x.dst v) w'' ∨∃m',InvB P nt pre sk (Q .normal) m' (listed.setIfInBounds i true) (a.put x.dst v) w''):=by
       intro v w'' hb f1 f2 f3 f4
       rw [hd]
       exact .inl (InvA.step hpre hms (fun j hj=>⟨_,(hops j (by omega)).choose_spec.choose_spec.1⟩) hI (by omega) hnl (fun o' ho' e he hbb=>hi3 o' ho' e he hbb) hxp hd hdn hrefl htr hst hwalk hb f1 f2 f3 f4)
      refine kJE ho hlift hI.good ?_
      rw [hgx] at hw
      by_cases hg:gOk x.guard (slots a)=true
      ·rw [if_pos hg]
       by_cases hn:yC x.k=true
       ·have hrun:=kMN (wK hagx) ((hw hg).1 hn w' hI.below (hI.fnew i hnl) hknown)
        exact vO hrun fun v w'' ⟨hb,hΦ,hN⟩=>hstep v w'' hb (fun _ _=>hΦ) (fun _ h=>by rw [hn] at h;simp at h) (fun h=>by rw [hg] at h;simp at h) hN
       ·obtain ⟨v,hv⟩:=(hw hg).2 (by simpa using hn)
        have hval:=hv w' hI.below hknown
        rw [kAB (wK hagx)] at hval
        exact kA7 hval (hstep v w' (hrefl w') (fun _ h=>absurd h hn) (fun _ _=>hval) (fun h=>by rw [hg] at h;simp at h) (fun _ _ h=>h))
      ·rw [if_neg hg]
       exact hstep undef w' (hrefl w') (fun h=>absurd h hg) (fun h=>absurd h hg) (fun _=>rfl) (fun _ _ h=>h)
     · -- the first sink
      have hall :∀j,j<pre.length→listed.getD j false=true:=by
       intro j hj
       have hb2:=kDC sk pre.length hsinks (i-pre.length) (by omega) j (by omega)
       rw [show pre.length+(i-pre.length)=i by omega] at hb2
       exact hI.closed.reach (hbit hb2) hi3
      exact hB 0 (kHK hpre hms hrefl htr hst hI hall hwalk)
    ·exact hB m hI
   · -- the end
    intro listed a w' hI hls hr
    have hall:=ready_nil hr hls hacyc
    have hB :∀m,InvB P nt pre sk (Q .normal) m listed a w'→onSl nt Q .normal a w':=by
     intro m hb
     have hm:m=sk.length:=by
      rcases Nat.lt_or_ge m sk.length with h|h
      ·have h1:=hall (pre.length+m) (by omega)
       rw [hb.left _ (Nat.le_refl _)] at h1;simp at h1
      ·have:=hb.le;omega
     have hwp:=hb.wp
     rw [hm,List.drop_length] at hwp
     exact ⟨hb.good,hwp⟩
    rcases hI with hI|⟨m,hI⟩
    ·exact hB 0 (kHK hpre hms hrefl htr hst hI (fun j hj=>hall j (by omega)) hwalk)
    ·exact hB m hI
   · -- the start
    have hrep :∀j,(Array.replicate ops.size false).getD j false=false:=by
     intro j
     simp only [Array.getD_eq_getD_getElem?,Array.getElem?_replicate]
     split<;>rfl
    exact ⟨ha,fun j o _ hj=>by rw [hrep] at hj;simp at hj,fun j _=>hrep j,hrefl _,fun t _=>by rw [hσ0],
     fun j i d _ hj=>by rw [hrep] at hj;simp at hj,fun j i d _ hj=>by rw [hrep] at hj;simp at hj,fun j i d _ hj=>by rw [hrep] at hj;simp at hj,fun j _=>hN0 j⟩
  ·simp at h
end
def wU:Code→Option Nat
 | .goto l=>some l
 | .seq a b=>(wU a).orElse fun _=>wU b
 | .cond _ a b=>(wU a).orElse fun _=>wU b
 | .block _ a=>wU a
 | .loop a=>wU a
 | _=>none
def boolT (P:Program) (T:TypeId):Bool :=
 match P.underlying T,zeroAt P T,jL P T with
 | some .bool,some [.bool false],some 1=>true
 | _,_,_=>false
def kO0 (P:Program) (nt:Nat) (ops:Array Oper):Option (Nat×Nat) :=
 match ops.toList with
 | [⟨some d,.alloc T,_,_,_,none⟩,⟨none,.store T1 (.tmp e1) (.const (.bool true)),_,_,a1,none⟩,⟨none,.store T2 (.tmp e2) (.const (.bool false)),_,_,a2,none⟩,⟨some f,.load T3 (.tmp e3),_,_,a3,none⟩] =>
 if T1==T&&T2==T&&T3==T&&e1==d&&e2==d&&e3==d&&decide (d<nt)&&decide (f<nt)&&d != f &&
 (a1.any fun e=>Region.binds .any e&&e.on==0)&&(a2.any fun e=>Region.binds .any e&&e.on==0) &&
 (a3.any fun e=>Region.binds .any e&&e.on==1)&&(a3.any fun e=>Region.binds .any e&&e.on==2) &&
 boolT P T&&acyclic 0 ops.toList
 then some (d,f) else none
 | _=>none
def xB (P:Program) (nt:Nat):Nat→Code→Option IC
 | 0,_=>none
 | n+1,c=>match c with
   | .skip=>some .skip
   | .label _=>some .skip
   | .ret=>some .ret
   | .exit id=>some (.exit id)
   | .goto l=>some (.goto l)
   | .region _ ops false=>match ops.toList.mapM (kDB P nt ops) with
     | some l=>some (.blk l)
     | none=>some .bad
   | .region _ ops true=>match kF9 P nt ops with
     | some (l,s)=>some (.drw l s)
     | none=>match kO0 P nt ops with
       | some p=>some (.rnd p.1 p.2)
       | none=>some .bad
   | .seq a b=>match xB P nt n a,xB P nt n b with
     | some x,some y=>some (.seq x y)
     | _,_=>none
   | .cond o a b=>match xB P nt n a,xB P nt n b with
     | some x,some y=>some (.cond o x y)
     | _,_=>none
   | .block id a=>(xB P nt n a).map (.block id)
   | .loop a=>(xB P nt n a).map .loop
   | .scope a=>match wU a with
     | none=>(xB P nt n a).map .scope
     | some l=>match findLabel a l with
       | none=>none
       | some r=>match xB P nt n a,xB P nt n r with
         | some x,some y=>some (.scopeTo x l y)
         | _,_=>none
   | _=>none
theorem kMS {nt:Nat} {P:Program} {x y:Code} {Q:Exit→Sl→World→Prop} {N:Sl→World→Prop} {a:Act} {w:World}
 (h:x.wp P (onSl nt (kF N Q)) a w) (hn :∀a w,Good nt a→N (slots a) w→y.wp P (onSl nt Q) a w):(Code.seq x y).wp P (onSl nt Q) a w:=by
 refine wp_seq (wp_mono h fun e a w ⟨hg,hq⟩=>?_)
 cases e<;>first|exact hn _ _ hg hq|exact ⟨hg,hq⟩
theorem kGA (w:World) (x v:Value) (T:TypeId) :
 (w.alloc (.cells #[x] T)).setCell ⟨w.heap.size,0,none⟩ v=w.alloc (.cells #[v] T):=by
 simp only [World.setCell,World.alloc]
 congr 1
 apply Array.ext_getElem?
 intro i
 simp only [Array.getElem?_modify,Array.getElem?_push]
 by_cases hi:w.heap.size=i
 ·subst hi;simp
 ·rw [if_neg hi,if_neg (fun h=>hi h.symm),if_neg (fun h=>hi h.symm)]
theorem kMT {P : Program} {nt : Nat} {ops : Array Oper} {d f id : Nat} (hm : P.follows .mixedOrders = true) (h : kO0 P nt ops = some (d, f))
    {Q : Exit → Sl → World → Prop} {a : Act} {w : World} (ha : Good nt a) (hw : wpC P (.rnd d f) Q (slots a) w) : (Code.region id ops true).wp P (onSl nt Q) a w := by
  unfold kO0 at h
  split at h
  · rename_i d' T ty0 pos0 a0 T1 e1 ty1 pos1 a1 T2 e2 ty2 pos2 a2 f' T3 e3 ty3 pos3 a3 hops
    split at h
    · rename_i hc
      simp only [Option.some.injEq, Prod.mk.injEq] at h
      obtain ⟨rfl, rfl⟩ := h
      simp only [Bool.and_eq_true, beq_iff_eq, decide_eq_true_eq, bne_iff_ne, ne_eq] at hc
      obtain ⟨⟨⟨⟨⟨⟨⟨⟨⟨⟨⟨⟨⟨⟨hT1, hT2⟩, hT3⟩, he1⟩, he2⟩, he3⟩, hd⟩, hf⟩, hdf⟩, hA1⟩, hA2⟩, hA31⟩, hA32⟩, hB⟩, hac⟩ := hc
      rw [hT1, he1, hT2, he2, hT3, he3] at hops
      have hU : P.underlying T = some .bool ∧ zeroAt P T = some [.bool false] ∧ jL P T = some 1 := by
        unfold boolT at hB; split at hB
        · rename_i h1 h2 h3; exact ⟨h1, h2, h3⟩
        · simp at hB
      obtain ⟨hU, hZ, hS⟩ := hU
      have g0 : ops[0]? = some ⟨some d', .alloc T, ty0, pos0, a0, none⟩ := by
        have : ops.toList[0]? = some ⟨some d', .alloc T, ty0, pos0, a0, none⟩ := by rw [hops]; rfl
        simpa using this
      have g1 : ops[1]? = some ⟨none, .store T (.tmp d') (.const (.bool true)), ty1, pos1, a1, none⟩ := by
        have : ops.toList[1]? = some ⟨none, .store T (.tmp d') (.const (.bool true)), ty1, pos1, a1, none⟩ := by rw [hops]; rfl
        simpa using this
      have g2 : ops[2]? = some ⟨none, .store T (.tmp d') (.const (.bool false)), ty2, pos2, a2, none⟩ := by
        have : ops.toList[2]? = some ⟨none, .store T (.tmp d') (.const (.bool false)), ty2, pos2, a2, none⟩ := by rw [hops]; rfl
        simpa using this
      have g3 : ops[3]? = some ⟨some f', .load T (.tmp d'), ty3, pos3, a3, none⟩ := by
        have : ops.toList[3]? = some ⟨some f', .load T (.tmp d'), ty3, pos3, a3, none⟩ := by rw [hops]; rfl
        simpa using this
      have hsz : ops.size = 4 := by rw [← Array.length_toList, hops]; rfl
      simp only [wpC] at hw
      -- what holds on the way
      let I : Array Bool → Act → World → Prop := fun listed a' w' =>
        (listed.getD 0 false = false ∧ listed.getD 1 false = false ∧ listed.getD 2 false = false ∧ listed.getD 3 false = false ∧ a' = a ∧ w' = w.drew) ∨
        (listed.getD 0 false = true ∧ listed.getD 3 false = false ∧ a' = a.put (some d') (.pointer (some ⟨w.heap.size, 0, none⟩)) ∧ ∃ c T', w' = w.drew.alloc (.cells #[.bool c] T')) ∨
        (listed.getD 0 false = true ∧ listed.getD 1 false = true ∧ listed.getD 2 false = true ∧ listed.getD 3 false = true ∧ onSl nt Q .normal a' w')
      refine wp_region_any hm (kHL (I := I) ?_ ?_ _ _ _ _ (.inl ?_) (by simp) (by simp))
      · intro listed a' w' hI hls i hi
        obtain ⟨hi1, hi2, hi3⟩ := kA8 hi
        have hlt : i < listed.size := by omega
        have hnl : listed.getD i false = false := by
          rw [Array.getD_eq_getD_getElem?, show listed[i]? = some listed[i] by simp [hlt]] at hi2 ⊢
          simpa using hi2
        have dep : ∀ {as : Array Edge} {k : Nat}, (as.any fun e => Region.binds .any e && e.on == k) = true →
            (∀ e ∈ as, Region.binds .any e = true → listed.getD e.on false = true) → listed.getD k false = true := by
          intro as k h1 h2
          rw [Array.any_eq_true'] at h1
          obtain ⟨e, he, hb⟩ := h1
          simp only [Bool.and_eq_true, beq_iff_eq] at hb
          rw [← hb.2]; exact h2 e he hb.1
        have hgood : Good nt (a.put (some d') (.pointer (some ⟨w.heap.size, 0, none⟩))) := ha.put _ _
        have hslot : slots (a.put (some d') (.pointer (some ⟨w.heap.size, 0, none⟩))) = upd (slots a) d' (.pointer (some ⟨w.heap.size, 0, none⟩)) :=
          kAC (fun t ht => by cases ht; rw [ha.1]; exact hd)
        have hev : ∀ x, (a.put (some d') (.pointer (some ⟨w.heap.size, 0, none⟩))).eval x = ev (upd (slots a) d' (.pointer (some ⟨w.heap.size, 0, none⟩))) x := by
          intro x; rw [uA, hslot]
        have i4 : i = 0 ∨ i = 1 ∨ i = 2 ∨ i = 3 := by omega
        rcases hI with ⟨n0, n1, n2, n3, rfl, rfl⟩ | ⟨y0, n3, rfl, c, T', rfl⟩ | ⟨y0, y1, y2, y3, -⟩
        · rcases i4 with rfl | rfl | rfl | rfl
          · unfold wpOp
            rw [g0]
            simp only [Region.wanted, if_true]
            refine .inl (uM (kDO (k := .alloc [.bool false]) (by simp [wT, hZ]) (fun x => uA _ x) ?_))
            intro T'
            refine .inr (.inl ⟨by rw [yF hlt, if_pos rfl], by rw [yF hlt, if_neg (by omega)]; exact n3, rfl, false, T', rfl⟩)
          · have := dep hA1 (fun e he hb => hi3 _ g1 e he hb); rw [n0] at this; simp at this
          · have := dep hA2 (fun e he hb => hi3 _ g2 e he hb); rw [n0] at this; simp at this
          · have := dep hA31 (fun e he hb => hi3 _ g3 e he hb); rw [n1] at this; simp at this
        · have hstore : ∀ (b : Bool) (o : Oper), ops[i]? = some o → o.guard = none → o.dst = none → o.op = .store T (.tmp d') (.const (.bool b)) → i ≠ 0 → i ≠ 3 →
              wpOp P ops (onSl nt Q) i (fun a' w' => I (listed.setIfInBounds i true) a' w') (a.put (some d') (.pointer (some ⟨w.heap.size, 0, none⟩))) (w.drew.alloc (.cells #[.bool c] T')) := by
            intro b o ho hgd hds hop hi0 hi3'
            unfold wpOp
            rw [ho]
            simp only [Region.wanted, hgd, if_true]
            refine .inl (uM (kDO (k := .st (.tmp d') 1 (.const (.bool b))) (by rw [hop]; simp [wT, hS]) hev ?_))
            simp only [RK.run, ev, upd_same]
            have hblk : Blk (w.drew.alloc (.cells #[.bool c] T')) w.heap.size [.bool c] := Blk.new w.drew [.bool c] T'
            refine ⟨rfl, ⟨rfl, .inr ⟨[.bool c], hblk, by simp [Value.cells]⟩, by simp [Value.cells, Value.oneCell']⟩, ?_⟩
            rw [hds]
            refine .inr (.inl ⟨by rw [yF hlt, if_neg (fun h => hi0 h.symm)]; exact y0, by rw [yF hlt, if_neg (fun h => hi3' h.symm)]; exact n3, rfl, b, T', ?_⟩)
            simp only [Value.cells, putCells, Addr.kK]
            exact kGA w.drew (.bool c) (.bool b) T'
          rcases i4 with rfl | rfl | rfl | rfl
          · rw [y0] at hnl; simp at hnl
          · exact hstore true _ g1 rfl rfl rfl (by omega) (by omega)
          · exact hstore false _ g2 rfl rfl rfl (by omega) (by omega)
          · unfold wpOp
            rw [g3]
            simp only [Region.wanted, if_true]
            refine .inl (uM (kDO (k := .ld (.tmp d')) (by simp [wT, hU, yS]) hev ?_))
            have hblk : Blk (w.drew.alloc (.cells #[.bool c] T')) w.heap.size [.bool c] := Blk.new w.drew [.bool c] T'
            have hcell : (w.drew.alloc (.cells #[.bool c] T')).cell? ⟨w.heap.size, 0, none⟩ = some (.bool c) := hblk.cell 0
            simp only [RK.run, ev, upd_same, hcell]
            refine .inr (.inr ⟨by rw [yF hlt, if_neg (by omega)]; exact y0, ?_, ?_, by rw [yF hlt, if_pos rfl], hgood.put _ _, ?_⟩)
            · rw [yF hlt, if_neg (by omega)]; exact dep hA31 (fun e he hb => hi3 _ g3 e he hb)
            · rw [yF hlt, if_neg (by omega)]; exact dep hA32 (fun e he hb => hi3 _ g3 e he hb)
            · rw [kAC (fun t ht => by cases ht; rw [hgood.1]; exact hf), hslot]
              exact hw c T'
        · rcases i4 with rfl | rfl | rfl | rfl <;> simp_all
      · intro listed a' w' hI hls hr
        have hall := ready_nil hr hls (fun j o ho e he hb => by have := kDD ops.toList 0 hac j o (by simpa using ho) e he hb; omega)
        rcases hI with ⟨n0, -⟩ | ⟨-, n3, -⟩ | ⟨-, -, -, -, hq⟩
        · rw [hall 0 (by omega)] at n0; simp at n0
        · rw [hall 3 (by omega)] at n3; simp at n3
        · exact hq
      · have hrep : ∀ j, (Array.replicate ops.size false).getD j false = false := by
          intro j
          simp only [Array.getD_eq_getD_getElem?, Array.getElem?_replicate]
          split <;> rfl
        exact ⟨hrep 0, hrep 1, hrep 2, hrep 3, rfl, rfl⟩
    · simp at h
  · simp at h
theorem kJG {P:Program} {nt:Nat} (hm:P.follows .mixedOrders=true) :∀(n:Nat) (c:Code) (ic:IC),xB P nt n c=some ic →
  ∀(Q:Exit→Sl→World→Prop) (a:Act) (w:World),Good nt a→wpC P ic Q (slots a) w→c.wp P (onSl nt Q) a w:=by
 intro n
 induction n with
 | zero=>intro c ic h;simp [xB] at h
 | succ n ih =>
   intro c ic h Q a w ha hw
   cases c with
   | skip=>simp only [xB,Option.some.injEq] at h;subst h;exact wp_skip ⟨ha,hw⟩
   | label l=>simp only [xB,Option.some.injEq] at h;subst h;exact wp_label ⟨ha,hw⟩
   | ret=>simp only [xB,Option.some.injEq] at h;subst h;exact wp_ret ⟨ha,hw⟩
   | exit id=>simp only [xB,Option.some.injEq] at h;subst h;exact wp_exit ⟨ha,hw⟩
   | goto l=>simp only [xB,Option.some.injEq] at h;subst h;exact wp_goto ⟨ha,hw⟩
   | region id ops draw =>
     cases draw with
     | false =>
       simp only [xB] at h
       cases hl:ops.toList.mapM (kDB P nt ops) with
       | none=>simp only [hl,Option.some.injEq] at h;subst h;exact hw.elim
       | some l =>
         simp only [hl,Option.some.injEq] at h;subst h
         obtain ⟨hlen,hget⟩:=kHM hl
         apply wp_region
         have:=kOZ (P:=P) (nt:=nt) (ops:=ops) (Q:=Q) l 0 ops.size a w (fun j hj=>by
          obtain ⟨i,hi,hf⟩:=hget j ops[j] (by simp [hj])
          exact ⟨_,i,by simp [hj],hi,hf⟩) (by rw [←hlen];simp) ha hw
         rw [List.range_eq_range'];exact this
     | true =>
       simp only [xB] at h
       split at h
       ·rename_i l s hl
        simp only [Option.some.injEq] at h;subst h
        exact kLM hm hl ha hw
       ·cases hr:kO0 P nt ops with
        | none=>simp only [hr,Option.some.injEq] at h;subst h;exact hw.elim
        | some p =>
          obtain ⟨d,f⟩:=p
          simp only [hr,Option.some.injEq] at h;subst h
          exact kMT hm hr ha hw
   | seq x y =>
     simp only [xB] at h
     split at h
     ·rename_i x' y' hx hy
      simp only [Option.some.injEq] at h;subst h
      exact kMS (ih x x' hx _ a w ha hw) fun a' w' ha' hn=>ih y y' hy Q a' w' ha' hn
     ·simp at h
   | cond o x y =>
     simp only [xB] at h
     split at h
     ·rename_i x' y' hx hy
      simp only [Option.some.injEq] at h;subst h
      simp only [wpC] at hw
      split at hw
      ·rename_i ho;exact wp_cond_true (by rw [uA];exact ho) (ih x x' hx Q a w ha hw)
      ·rename_i ho;exact wp_cond_false (by rw [uA];exact ho) (ih y y' hy Q a w ha hw)
      ·exact hw.elim
     ·simp at h
   | block id x =>
     simp only [xB] at h
     cases hx:xB P nt n x with
     | none=>simp [hx] at h
     | some x' =>
       simp only [hx,Option.map_some,Option.some.injEq] at h;subst h
       refine wp_block (wp_mono (ih x x' hx _ a w ha hw) fun e a w ⟨hg,hq⟩=>?_)
       cases e with
       | exit id' =>
         simp only [kR] at hq
         simp only [Exit.inBlock]
         split at hq
         ·rename_i he;rw [if_pos he];exact ⟨hg,hq⟩
         ·rename_i he;rw [if_neg he];exact ⟨hg,hq⟩
       | _=>exact ⟨hg,hq⟩
   | loop x =>
     simp only [xB] at h
     cases hx:xB P nt n x with
     | none=>simp [hx] at h
     | some x' =>
       simp only [hx,Option.map_some,Option.some.injEq] at h;subst h
       simp only [wpC] at hw
       obtain ⟨I,μ,h0,hr⟩:=hw
       refine wp_loop (fun a w=>Good nt a∧I (slots a) w) (fun a w=>μ (slots a) w) ⟨ha,h0⟩ fun a' w' ⟨ha',hI⟩=>?_
       refine wp_mono (ih x x' hx _ a' w' ha' (hr _ _ hI)) fun e a2 w2 ⟨hg,hq⟩=>?_
       cases e<;>first|exact ⟨⟨hg,hq.1⟩,hq.2⟩|exact ⟨hg,hq⟩
   | scope x =>
     simp only [xB] at h
     split at h
     ·cases hx:xB P nt n x with
      | none=>simp [hx] at h
      | some x' =>
        simp only [hx,Option.map_some,Option.some.injEq] at h;subst h
        refine wp_scope_straight (wp_mono (ih x x' hx _ a w ha hw) fun e a w ⟨hg,hq⟩=>?_)
        cases e<;>first|exact hq.elim|exact ⟨hg,hq⟩
     ·rename_i l hl
      split at h
      ·simp at h
      ·rename_i r hr
       split at h
       ·rename_i x' y' hx hy
        simp only [Option.some.injEq] at h;subst h
        refine wp_scope_jumps l (fun a w=>Good nt a∧wpC P y' (kD6 Q) (slots a) w) (fun _ _=>0) hr ?_ ?_
        ·refine wp_mono (ih x x' hx _ a w ha hw) fun e a w ⟨hg,hq⟩=>?_
         cases e<;>first|exact ⟨hq.1,hg,hq.2⟩|exact ⟨hg,hq⟩
        ·intro a' w' ⟨ha',hw'⟩
         refine wp_mono (ih r y' hy _ a' w' ha' hw') fun e a w ⟨hg,hq⟩=>?_
         cases e<;>first|exact hq.elim|exact ⟨hg,hq⟩
       ·simp at h
   | rangeFunc f p a b=>simp [xB] at h
   | refuse w=>simp [xB] at h
inductive RV where
 | tmp (t:Nat)
 | cell (t:Nat)
 | cells (t n:Nat)
 deriving Inhabited
def rvOf (P:Program):ResultVar→Option RV
 | .tmp t=>some (.tmp t)
 | .cell a T=>match P.underlying T with
 | some d=>if yS d then (jL P T).map (.cells a) else some (.cell a)
 | none=>none
def RV.val (r:RV) (σ:Sl) (w:World):Option Value :=
 match r with
 | .tmp t=>some (σ t)
 | .cell t=>match σ t with
   | .pointer (some p)=>w.cell? p
   | _=>none
 | .cells t n=>match σ t with
   | .pointer (some p)=>(kV w p 0 n).map fun vs=>.agg vs.toArray
   | _=>none
def rvals (l:List RV) (σ:Sl) (w:World):Option (List Value):=l.mapM fun r=>r.val σ w
def tup:List Value→Value
 | [v]=>v
 | l=>.tuple l.toArray
def kH (P:Program) (f:FuncId):Option (IC×List RV×Nat) :=
 match P.funcs[f]? with
 | none=>none
 | some fn=>match fn.body with
 | none=>none
 | some c=>match xB P fn.ntmps 100000 c,fn.results.toList.mapM (rvOf P) with
 | some ic,some rs=>some (ic,rs,fn.ntmps)
 | _,_=>none
def qE (args:List Value):Sl:=fun t=>args.getD t undef
def postC (rs:List RV) (R:Ending→World→Prop):Exit→Sl→World→Prop
 | .normal,σ,w|.ret,σ,w=>match rvals rs σ w with
   | some vs=>R (.returned (tup vs)) w
   | none=>False
 | _,_,_=>False
def kMU (tmps:Array Value):ResultVar→Sem Value
 | .tmp t=>pure (tmps.getD t undef)
 | .cell b t=>do loadVar t (←asAddr (tmps.getD b undef))
theorem kLN (fn:Func) (tmps:Array Value):results fn tmps=(do
 let vs ←fn.results.mapM (kMU tmps)
 pure (if h:vs.size=1 then vs[0] else .tuple vs)):=by
 unfold results
 congr 2
theorem rv_run {P:Program} {x:ResultVar} {r:RV} {a:Act} {w:World} {v:Value} (h:rvOf P x=some r) (hv:r.val (slots a) w=some v) :
  (kMU a.tmps x).run P w=.ok v w:=by
 cases x with
 | tmp t =>
   simp only [rvOf,Option.some.injEq] at h;subst h
   simp only [RV.val,Option.some.injEq] at hv;subst hv
   rfl
 | cell b T =>
   simp only [rvOf] at h
   have hb:a.tmps.getD b undef=slots a b:=rfl
   split at h
   ·rename_i d hd
    split at h
    ·rename_i hagg
     cases hs:jL P T with
     | none=>simp [hs] at h
     | some n =>
       simp only [hs,Option.map_some,Option.some.injEq] at h;subst h
       simp only [RV.val] at hv
       split at hv
       ·rename_i p hp
        cases hc:kV w p 0 n with
        | none=>simp [hc] at hv
        | some vs =>
          simp only [hc,Option.map_some,Option.some.injEq] at hv;subst hv
          simp [kMU,hb,hp,asAddr,kD3 hd hagg hs hc]
       ·simp at hv
    ·rename_i hagg
     simp only [Option.some.injEq] at h;subst h
     simp only [RV.val] at hv
     split at hv
     ·rename_i p hp
      simp [kMU,hb,hp,asAddr,kD2 hd (by simpa using hagg) hv]
     ·simp at hv
   ·simp at h
theorem kJH {P:Program} {fn:Func} {rs:List RV} {a:Act} {w:World} {vs:List Value} (h:fn.results.toList.mapM (rvOf P)=some rs)
  (hv:rvals rs (slots a) w=some vs):(results fn a.tmps).run P w=.ok (tup vs) w:=by
 have key :∀(l:List ResultVar) (rs:List RV) (vs:List Value),l.mapM (rvOf P)=some rs→rvals rs (slots a) w=some vs →
   (l.mapM (kMU a.tmps)).run P w=.ok vs w:=by
  intro l
  induction l with
  | nil=>intro rs vs h hv;simp at h;subst h;simp [rvals] at hv;subst hv;simp
  | cons x l ih =>
    intro rs vs h hv
    simp only [List.mapM_cons,Option.bind_eq_bind,Option.pure_def] at h
    cases hx:rvOf P x with
    | none=>simp [hx] at h
    | some r =>
      cases hl:l.mapM (rvOf P) with
      | none=>simp [hx,hl] at h
      | some rs' =>
        simp [hx,hl] at h
        subst h
        simp only [rvals,List.mapM_cons,Option.bind_eq_bind,Option.pure_def] at hv
        cases hr:r.val (slots a) w with
        | none=>simp [hr] at hv
        | some v =>
          cases hrs:rs'.mapM (fun r=>r.val (slots a) w) with
          | none=>simp [hr,hrs] at hv
          | some vs' =>
            simp [hr,hrs] at hv
            subst hv
            simp only [List.mapM_cons,Sem.run_bind,rv_run hx hr,Result.andThen_ok,ih rs' vs' hl hrs,Sem.run_pure]
 have hk:=key _ _ _ h hv
 rw [kLN]
 simp only [Array.mapM_eq_mapM_toList,Sem.run_bind,Sem.run_map,hk,Result.andThen_ok,Sem.run_pure]
 congr 1
 cases vs with
 | nil=>rfl
 | cons v vs=>cases vs with
   | nil=>rfl
   | cons u vs=>simp [tup]
theorem kT {P:Program} {f:FuncId} {ic:IC} {rs:List RV} {nt:Nat} (h:kH P f=some (ic,rs,nt)) (hm:P.follows .mixedOrders=true)
  {args:List Value} {w:World} {R:Ending→World→Prop} (hn:args.length≤nt) (hw:wpC P ic (postC rs R) (qE args) w):Calls P f args.toArray w R:=by
 unfold kH at h
 split at h
 ·simp at h
 ·rename_i fn hfn
  split at h
  ·simp at h
  ·rename_i c hc
   split at h
   ·rename_i ic' rs' hic hrs
    simp only [Option.some.injEq,Prod.mk.injEq] at h
    obtain ⟨rfl,rfl,rfl⟩:=h
    refine calls_of_wp hfn hc ?_
    have hsl:slots {tmps:=args.toArray++Array.replicate (fn.ntmps-args.toArray.size) undef,defers:=[]}=qE args:=by
     funext t
     simp only [slots,qE,Array.getD_eq_getD_getElem?,List.getD_eq_getElem?_getD]
     by_cases ht:t<args.length
     ·rw [Array.getElem?_append_left (by simpa using ht)];simp
     ·rw [Array.getElem?_append_right (by simp;omega),List.getElem?_eq_none (by omega)]
      simp only [Array.getElem?_replicate]
      split<;>rfl
    have hgood:Good fn.ntmps {tmps:=args.toArray++Array.replicate (fn.ntmps-args.toArray.size) undef,defers:=[]}:=⟨by simp;omega,rfl⟩
    refine wp_mono (kJG hm _ _ _ hic (postC rs' R) _ w hgood (by rw [hsl];exact hw)) fun e a w' ⟨hg,hq⟩=>?_
    have hfin :∀{a w'},Good fn.ntmps a→(match rvals rs' (slots a) w' with|some vs=>R (.returned (tup vs)) w'|none=>False) →
      a.defers=[] ∧∃v,(results fn a.tmps).run P w'=.ok v w'∧R (.returned v) w':=by
     intro a w' hg hq
     split at hq
     ·rename_i vs hvs;exact ⟨hg.2,_,kJH hrs hvs,hq⟩
     ·exact hq.elim
    cases e with
    | normal=>exact hfin hg hq
    | ret=>exact hfin hg hq
    | _=>exact hq.elim
   ·simp at h
end Go.Msk
