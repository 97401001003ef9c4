/- A small language of resolved operations, and what the generic and the generated functions do in it (part 8). -/
import Derived.Test.YtfoljfjkifiboaaGreatDoorFg
import Derived.ProofKit
import Derived.LaidMore
import Derived.OpenShut
import Derived.Stop.Joined
namespace Go.Msk
open Go.RowKit
set_option maxRecDepth 100000
def yI:List (Nat×List UInt8)→Nat→List UInt8→List (Nat×List UInt8)
 | [],k,l=>[(k,l)]
 | (k',l')::m,k,l=>if k=k' then (k,l)::m else (k',l')::yI m k l
def kAL:Nat→List (Nat×List UInt8)→RS→List (Nat×List UInt8)×RS
 | 0,m,s=>(m,s)
 | n+1,m,s=>kAL n (yI m (rdUv s).1 ((qG (rdUv (rdUv s).2).1 (rdUv (rdUv s).2).2).1.getD [])) (qG (rdUv (rdUv s).2).1 (rdUv (rdUv s).2).2).2
def uD (s:RS):List (Nat×List UInt8)×RS:=kAL (rdUv s).1 [] (rdUv s).2
theorem kEG :∀(m:List (Nat×List UInt8)) (k:Nat) (l:List UInt8),(yI m k l).map (·.1)=if k∈m.map (·.1) then m.map (·.1) else m.map (·.1)++[k]
 | [],k,l=>by simp [yI]
 | (k',l')::m,k,l=>by
   have ih:=kEG m k l
   simp only [yI]
   by_cases h:k=k'
   ·subst h;simp
   ·rw [if_neg h]
    simp only [List.map_cons,ih,List.mem_cons,h,false_or]
    split<;>simp
theorem kDI {m:List (Nat×List UInt8)} {k:Nat} {l:List UInt8} (h:(m.map (·.1)).Nodup):((yI m k l).map (·.1)).Nodup:=by
 rw [kEG]
 split
 ·exact h
 ·rename_i hk
  rw [List.nodup_append]
  refine ⟨h,by simp,fun a ha b hb=>?_⟩
  simp only [List.mem_singleton] at hb
  subst hb
  exact fun e=>hk (e▸ha)
def putE:List MapEntry→Nat→Nat→Value→List MapEntry
 | [],c,k,v=>[{key:=.int .u32 k,val:=v,born:=c}]
 | e::r,c,k,v=>if vY k e=true then {e with key:=.int .u32 k,val:=v}::r else e::putE r c k v
theorem kEH (c k:Nat) (v:Value) :∀(l:List MapEntry) (i:Nat),l.findIdx? (vY k)=some i→l.modify i (fun e=>{e with key:=.int .u32 k,val:=v})=putE l c k v
 | [],i,h=>by simp at h
 | e::r,i,h=>by
   rw [List.findIdx?_cons] at h
   simp only [putE]
   split at h
   ·rename_i he
    simp only [Option.some.injEq] at h;subst h
    rw [if_pos he];rfl
   ·rename_i he
    rw [if_neg he]
    cases hr:r.findIdx? (vY k) with
    | none=>simp [hr] at h
    | some j =>
      simp only [hr,Option.map_some,Option.some.injEq] at h
      subst h
      rw [List.modify_succ_cons,kEH c k v r j hr]
theorem kH4 (c k:Nat) (v:Value) :∀(l:List MapEntry),l.findIdx? (vY k)=none→l++[{key:=.int .u32 k,val:=v,born:=c}]=putE l c k v
 | [],_=>rfl
 | e::r,h=>by
   rw [List.findIdx?_cons] at h
   split at h
   ·simp at h
   ·rename_i he
    simp only [Option.map_eq_none_iff] at h
    simp only [putE,if_neg he,List.cons_append,kH4 c k v r h]
theorem kEI (es:Array MapEntry) (clock k:Nat) (v:Value) (hb:(es.toList.map (·.born)).Nodup) (hc :∀e∈es.toList,e.born<clock) :
  ∃es' c',kDY es clock .u32 k v=.map es' c'∧es'.toList=putE es.toList clock k v∧(es'.toList.map (·.born)).Nodup ∧∀e∈es'.toList,e.born<c':=by
 unfold kDY
 cases hf:es.toList.findIdx? (vY k) with
 | none =>
   refine ⟨_,_,rfl,?_,?_,?_⟩
   ·rw [Array.toList_push];exact kH4 clock k v _ hf
   ·rw [Array.toList_push,List.map_append,List.nodup_append]
    refine ⟨hb,by simp,fun a ha b hb'=>?_⟩
    simp only [List.map_cons,List.map_nil,List.mem_singleton] at hb'
    obtain ⟨e,he,rfl⟩:=List.mem_map.1 ha
    have:=hc e he
    omega
   ·intro e he
    rw [Array.toList_push,List.mem_append] at he
    rcases he with he|he
    ·have:=hc e he;omega
    ·simp only [List.mem_singleton] at he;subst he;simp
 | some i =>
   have hm:(es.modify i fun e=>{e with key:=.int .u32 k,val:=v}).toList=putE es.toList clock k v:=by
    rw [Array.toList_modify];exact kEH clock k v _ i hf
   have hmap:(putE es.toList clock k v).map (·.born)=es.toList.map (·.born):=by
    rw [←kEH clock k v _ i hf]
    apply List.ext_getElem?
    intro j
    simp only [List.getElem?_map,List.getElem?_modify]
    cases es.toList[j]? with
    | none=>simp
    | some e=>simp only [Option.map_some];split<;>rfl
   refine ⟨_,_,rfl,hm,by rw [hm,hmap];exact hb,fun e he=>?_⟩
   rw [hm] at he
   have:e.born∈(putE es.toList clock k v).map (·.born):=List.mem_map.2 ⟨e,he,rfl⟩
   rw [hmap] at this
   obtain ⟨e',he',h⟩:=List.mem_map.1 this
   rw [←h];exact hc e' he'
theorem EntL.put {ok:Nat→Prop} {w:World} {c k:Nat} {v:Value} {l:List UInt8} (hk:k<4294967296) (hv:SlC ok w v l.length (u8s l)) {es:List MapEntry} {m:List (Nat×List UInt8)} (h:EntL ok w es m):EntL ok w (putE es c k v) (yI m k l):=by
 induction h with
 | nil=>exact .cons rfl hk hv .nil
 | @cons e k' l' es m h1 h2 h3 h4 ih =>
   have hki:vY k e=decide (k=k'):=by
    unfold vY;rw [h1]
    by_cases hkk:k=k'
    ·simp [hkk]
    ·have :¬(k:Int)=k':=by omega
     simp [hkk,this]
   simp only [putE,yI,hki,decide_eq_true_eq]
   split
   ·exact .cons rfl hk hv h4
   ·exact .cons h1 h2 h3 ih
theorem EntL.keys {ok:Nat→Prop} {w:World} {es:List MapEntry} {m:List (Nat×List UInt8)} (h:EntL ok w es m) :∀e∈es,∃a,e.key=.int .u32 a:=by
 induction h with
 | nil=>simp
 | cons h1 _ _ _ ih =>
 intro e he
 rcases List.mem_cons.1 he with rfl|he
 ·exact ⟨_,h1⟩
 ·exact ih e he
theorem Mod.putObj {w:World} {r:Nat} {o:Obj} {S:List Nat} (hr:r∈S):Mod S w (Msk.putObj w r o):=by
 refine ⟨rfl,rfl,rfl,by simp [Msk.putObj],fun k hk hkS=>?_⟩
 simp only [Msk.putObj]
 exact Array.getElem?_setIfInBounds_ne (fun e=>hkS (by rw [←e];exact hr))
theorem kCU {w:World} {r:Nat} {o:Obj} (h:r<w.heap.size):(putObj w r o).heap[r]?=some o:=by
 simp [putObj,h]
def TagM (ok:Nat→Prop) (w:World) (v:Value) (m:List (Nat×List UInt8)):Prop :=
 (v=.map none∧m=[]) ∨∃r,v=.map (some r)∧y9 ok w r m
section
variable {P:Program} {F:Nat→Nat}
theorem kNA {w:World} (hm:P.follows .mixedOrders=true) (h:kH P (F tSet)=some (ir_tSet F)) {tb k:Nat} {mv v:Value} {m:List (Nat×List UInt8)} {l:List UInt8} {ok:Nat→Prop} (hb:Blk w tb [mv]) (hM:TagM ok w mv m) (hk:k<4294967296)
  (hv:SlC ok w v l.length (u8s l)) (htb :¬ok tb) (hr0 :∀r,mv=.map (some r) →¬ok r∧r≠tb) :
  Calls P (F tSet) [.pointer (some ⟨tb,0,none⟩),.int .u32 k,v].toArray w fun e w'=>e=.returned (.tuple #[]) ∧∃r,Blk w' tb [.map (some r)]∧y9 (fun b=>ok b∧b<w.heap.size) w' r (yI m k l)∧r≠tb ∧
   ((mv=.map (some r)∧Mod [tb,r] w w')∨(mv=.map none∧w.heap.size≤r∧Mod [tb] w w')):=by
 unfold ir_tSet at h
 refine kT h hm (by simp) ?_
 have a0:qE [.pointer (some ⟨tb,0,none⟩),.int .u32 k,v] 0=.pointer (some ⟨tb,0,none⟩):=rfl
 have a1:qE [.pointer (some ⟨tb,0,none⟩),.int .u32 k,v] 1=.int .u32 k:=rfl
 have a2:qE [.pointer (some ⟨tb,0,none⟩),.int .u32 k,v] 2=v:=rfl
 generalize qE [.pointer (some ⟨tb,0,none⟩),.int .u32 k,v]=σ0 at a0 a1 a2 ⊢
 have c0:w.cell? ⟨tb,0,none⟩=some mv:=hb.cell 0
 have htl:=hb.lt
 -- what happens once there is a map
 have key :∀(σ:Sl) (w1:World) (r:Nat),σ 0=.pointer (some ⟨tb,0,none⟩)→σ 1=.int .u32 k→σ 2=v→Blk w1 tb [.map (some r)]→y9 (fun b=>ok b∧b<w.heap.size) w1 r m→r≠tb →¬(ok r∧r<w.heap.size)→w.heap.size≤w1.heap.size→SlC (fun b=>ok b∧b<w.heap.size) w1 v l.length (u8s l) →
   ((mv=.map (some r)∧w1=w)∨(mv=.map none∧w.heap.size≤r∧Mod [tb] w w1)) →
   wpC P (.blk [⟨some 15,.mv (.tmp 0),none⟩,⟨some 16,.nilc (.tmp 15),none⟩,⟨some 17,.fad (.tmp 16) 0,none⟩,⟨some 18,.ld (.tmp 17),none⟩,⟨some 19,.mv (.tmp 1),none⟩,⟨some 20,.mv (.tmp 2),none⟩,⟨none,.mapup (.tmp 18) (.tmp 19) (.tmp 20),none⟩])
    (postC [] fun e w'=>e=.returned (.tuple #[]) ∧∃r,Blk w' tb [.map (some r)]∧y9 (fun b=>ok b∧b<w.heap.size) w' r (yI m k l)∧r≠tb ∧
     ((mv=.map (some r)∧Mod [tb,r] w w')∨(mv=.map none∧w.heap.size≤r∧Mod [tb] w w'))) σ w1:=by
  intro σ w1 r s0 s1 s2 hb1 hM1 hrt hnr hsz hv1 hcase
  have c1:w1.cell? ⟨tb,0,none⟩=some (.map (some r)):=hb1.cell 0
  have hrl:=hM1.lt
  obtain ⟨es,clock,he1,he2,he3,he4⟩:=hM1.ex
  obtain ⟨es',c',p1,p2,p3,p4⟩:=kEI es clock k v he3 he4
  rw [kD]
  refine kC (v:=.pointer (some ⟨tb,0,none⟩)) (congrArg some s0) ?_
  refine kC (v:=.pointer (some ⟨tb,0,none⟩)) (by simp only [RK.val?,ev,updo,upd,if_true]) ?_
  refine kC (v:=.pointer (some ⟨tb,0,none⟩)) (by simp only [RK.val?,ev,updo,upd,if_true,Addr.kK]) ?_
  refine kC (v:=.map (some r)) (by simp only [RK.val?,ev,updo,upd,if_true,c1]) ?_
  refine kC (v:=.int .u32 k) (by simp only [RK.val?,ev,updo,upd];simp [s1]) ?_
  refine kC (v:=v) (by simp only [RK.val?,ev,updo,upd];simp [s2]) ?_
  refine kX ?_
  simp only [RK.run,ev,updo,upd,show (18:Nat)≠20 by decide,show (18:Nat)≠19 by decide,show (19:Nat)≠20 by decide,if_false,if_true,he1]
  refine ⟨he2.keys,?_⟩
  simp only [wpR,postC,rvals,List.mapM_nil,Option.pure_def,tup]
  refine ⟨trivial,r,?_,?_,hrt,?_⟩
  ·exact hb1.mod (Mod.putObj (S:=[r]) (by simp)) (by simp;omega)
  ·rw [p1]
   have hmd:Mod [r] w1 (putObj w1 r (.map es' c')):=Mod.putObj (by simp)
   refine ⟨⟨es',c',kCU hrl,?_,p3,p4⟩,kDI hM1.keys⟩
   rw [p2]
   exact (he2.put hk hv1).mod hmd (fun b hb hx=>by simp only [List.mem_singleton] at hb;subst hb;exact hnr hx) fun _ _ h=>h
  ·rcases hcase with ⟨h1,h2⟩|⟨h1,h2,h3⟩
   ·refine .inl ⟨h1,?_⟩
    rw [h2];exact Mod.putObj (by simp)
   ·refine .inr ⟨h1,h2,?_⟩
    have hmd:Mod [r,tb] w1 (putObj w1 r (kDY es clock .u32 k v)):=Mod.putObj (by simp)
    exact Mod.drop (b:=r) (S:=[tb]) ((h3.mono (by simp)).trans hmd) h2
 generalize postC [] _=Q at key ⊢
 rw [wpC_seq,wpC_seq,kD]
 refine kC (v:=.pointer (some ⟨tb,0,none⟩)) (congrArg some a0) ?_
 refine kC (v:=.pointer (some ⟨tb,0,none⟩)) (by simp only [RK.val?,ev,updo,upd,if_true]) ?_
 refine kC (v:=.pointer (some ⟨tb,0,none⟩)) (by simp only [RK.val?,ev,updo,upd,if_true,Addr.kK]) ?_
 refine kC (v:=mv) (by simp only [RK.val?,ev,updo,upd,if_true,c0]) ?_
 have hv2:SlC (fun b=>ok b∧b<w.heap.size) w v l.length (u8s l):=hv.mod (Mod.refl [] _) (by simp) fun b hb hx=>⟨hx,hb⟩
 rcases hM with ⟨rfl,rfl⟩|⟨r,rfl,hM⟩
 ·refine kC (v:=.bool true) (by simp only [RK.val?,ev,updo,upd,if_true];rfl) ?_
  refine kE ?_
  rw [kI rfl,kD]
  refine kC (v:=.pointer (some ⟨tb,0,none⟩)) (by simp only [RK.val?,ev,updo,upd];simp [a0]) ?_
  refine kX ?_
  simp only [RK.run]
  refine kC (v:=.pointer (some ⟨tb,0,none⟩)) (by simp only [RK.val?,ev,updo,upd];simp) ?_
  refine kC (v:=.pointer (some ⟨tb,0,none⟩)) (by simp only [RK.val?,ev,updo,upd,if_true,Addr.kK]) ?_
  refine kX ?_
  have hma:Mod [] w (w.alloc (.map #[] 0)):=Mod.alloc _ _ _
  have hsz:(w.alloc (.map #[] 0)).heap.size=w.heap.size+1:=by simp
  have hget:(w.alloc (.map #[] 0)).heap[w.heap.size]?=some (.map #[] 0):=heap_alloc_new w _
  have hba:=hb.mod hma (by simp)
  generalize w.alloc (.map #[] 0)=w1 at hma hsz hget hba ⊢
  simp only [RK.run,ev,updo,upd,if_true,show (12:Nat)≠14 by decide,show (12:Nat)≠13 by decide,if_false]
  have ec:(Value.map (some w.heap.size)).cells=#[.map (some w.heap.size)]:=rfl
  rw [ec]
  have hput:Mod [tb] w1 (putCells w1 ⟨tb,0,none⟩ 0 [.map (some w.heap.size)]):=Mod.put (by simp)
  have hp:=hba.put (o:=0) (vs:=[.map (some w.heap.size)]) (by simp)
  rw [jW (by rfl)] at hp
  refine ⟨rfl,yN hba (by simp) rfl,?_⟩
  refine kE ?_
  generalize hσ:upd _ 14 _=σ1
  have s0:σ1 0=.pointer (some ⟨tb,0,none⟩):=by rw [←hσ];simp [upd,a0]
  have s1:σ1 1=.int .u32 k:=by rw [←hσ];simp [upd,a1]
  have s2:σ1 2=v:=by rw [←hσ];simp [upd,a2]
  clear hσ
  refine key σ1 _ w.heap.size s0 s1 s2 hp ?_ (by omega) (fun h=>by omega) (by rw [zX];omega) ?_ (.inr ⟨rfl,Nat.le_refl _,hma.nil.trans hput⟩)
  ·refine ⟨⟨#[],0,?_,.nil,by simp,by simp⟩,by simp⟩
   rw [hput.block _ (by omega) (by simp;omega)];exact hget
  ·exact (hv2.mod hma (by simp) fun _ _ h=>h).mod hput (fun b hb hx=>by simp only [List.mem_singleton] at hb;subst hb;exact htb hx.1) fun _ _ h=>h
 ·refine kC (v:=.bool false) (by simp only [RK.val?,ev,updo,upd,if_true];rfl) ?_
  refine kE ?_
  rw [kG rfl,wpC_skip]
  simp only [kF]
  obtain ⟨q1,q2⟩:=hr0 r rfl
  generalize hσ:updo _ (some 10) _=σ1
  have s0:σ1 0=.pointer (some ⟨tb,0,none⟩):=by rw [←hσ];simp [updo,upd,a0]
  have s1:σ1 1=.int .u32 k:=by rw [←hσ];simp [updo,upd,a1]
  have s2:σ1 2=v:=by rw [←hσ];simp [updo,upd,a2]
  clear hσ
  refine key σ1 _ r s0 s1 s2 hb (hM.mod (Mod.refl [] _) (by simp) (by simp) fun b hb hx=>⟨hx,hb⟩) q2 (fun h=>q1 h.1) (Nat.le_refl _) hv2 (.inl ⟨rfl,rfl⟩)
end
def TagS (S:List Nat) (n0:Nat) (w:World) (rb tb b2:Nat) (mv:Value) (m:List (Nat×List UInt8)) (s:RS):Prop :=
 (mv=.map none∧m=[]∧IsRd (b2::tb::S) w rb s) ∨
 ∃r,mv=.map (some r)∧n0≤r∧r≠tb∧r≠b2∧r≠rb∧y9 (fun b=>b ∉ rb::r::b2::tb::S) w r m∧IsRd (r::b2::tb::S) w rb s
theorem TagS.rd {S:List Nat} {n0:Nat} {w:World} {rb tb b2:Nat} {mv:Value} {m:List (Nat×List UInt8)} {s:RS} (h:TagS S n0 w rb tb b2 mv m s) :∃S',(∀x∈b2::tb::S,x∈S')∧(∀x∈S',x∈b2::tb::S∨(n0≤x∧x≠rb))∧IsRd S' w rb s ∧
  (∀(w':World) (s':RS),IsRd S' w' rb s'→Mod [rb] w w'→TagS S n0 w' rb tb b2 mv m s')∧(mv=.map none∧m=[]∧S'=b2::tb::S ∨∃r,mv=.map (some r)∧n0≤r∧r≠tb∧r≠b2∧r≠rb∧S'=r::b2::tb::S∧y9 (fun b=>b ∉ rb::S') w r m):=by
 rcases h with ⟨h1,h2,h3⟩|⟨r,h1,h2,h3,h4,h5,h6,h7⟩
 ·exact ⟨b2::tb::S,fun _ h=>h,fun _ h=>.inl h,h3,fun w' s' hr hm=>.inl ⟨h1,h2,hr⟩,.inl ⟨h1,h2,rfl⟩⟩
 ·refine ⟨r::b2::tb::S,fun x h=>List.mem_cons_of_mem _ h,fun x hx=>?_,h7,fun w' s' hr hm=>.inr ⟨r,h1,h2,h3,h4,h5,h6.mod hm (by simpa using h5) (by simp) (fun _ _ h=>h),hr⟩,.inr ⟨r,h1,h2,h3,h4,h5,rfl,h6⟩⟩
  rcases List.mem_cons.1 hx with rfl|hx
  ·exact .inr ⟨h2,h5⟩
  ·exact .inl hx
theorem OctX.slcN {O:List Nat} {w:World} {v:Value} {o:Option (List UInt8)} (h:OctX O w v o):SlC (fun b=>b ∉ O) w v (o.getD []).length (u8s (o.getD [])):=by
 obtain ⟨h1,h2⟩:=h
 cases o with
 | none=>simp only [kMW] at h1;subst h1;exact SlC.nil
 | some l =>
 obtain ⟨a,n,c,rfl,hb⟩:=h1
 refine ⟨some a,c,by rw [hb.hlen];rfl,by have:=hb.hcap;have:=hb.hlen;simp only [Option.getD_some];omega,fun h=>by simp at h,fun a' e _=>?_⟩
 simp only [Option.some.injEq] at e;subst e
 exact ⟨(h2 a n c rfl).1,(h2 a n c rfl).2,hb.hcells a rfl⟩
section
variable {P:Program} {F:Nat→Nat}
theorem kPE {S:List Nat} (hm:P.follows .mixedOrders=true) (huv:kH P (F qB)=some (ir_rUvarint F)) (hk:kH P (F qH)=some (ir_kUvarint F)) (hsp:kH P (F zF)=some (ir_rSpan F)) (hset:kH P (F tSet)=some (ir_tSet F))
  {rb tb b2:Nat} {mv:Value} {m:List (Nat×List UInt8)} {s:RS} {σ:Sl} {w w0:World} {Q:Exit→Sl→World→Prop} (h0:σ 0=.pointer (some ⟨rb,0,none⟩)) (h3:σ 3=.pointer (some ⟨tb,0,none⟩))
  (hb:Blk w tb [mv]) (hb2:Blk w b2 [.map none]) (hS:TagS S w0.heap.size w rb tb b2 mv m s) (hrt:rb≠tb) (hr2:rb≠b2) (h2t:b2≠tb) (hrS:rb ∉ S) (_hSl :∀x∈S,x<w0.heap.size) (htb:w0.heap.size≤tb) (hmw:Mod [rb] w0 w)
  (hQ :∀σ' w' mv',(∀j,j<5→σ' j=σ j)→Blk w' tb [mv']→Blk w' b2 [.map none]→Mod [rb] w0 w' →
   TagS S w0.heap.size w' rb tb b2 mv' (yI m (rdUv s).1 ((qG (rdUv (rdUv s).2).1 (rdUv (rdUv s).2).2).1.getD [])) (qG (rdUv (rdUv s).2).1 (rdUv (rdUv s).2).2).2→Q .normal σ' w') :
  wpC P (.seq (.blk [⟨some 13,.mv (.tmp 0),none⟩,⟨some 14,.call (F qB) [.tmp 13],none⟩,⟨some 15,.mv (.tmp 0),none⟩,⟨some 16,.call (F qB) [.tmp 15],none⟩,⟨some 5,.mv (.tmp 14),none⟩,⟨some 6,.mv (.tmp 16),none⟩])
   (.blk [⟨some 17,.mv (.tmp 5),none⟩,⟨some 18,.mv (.tmp 0),none⟩,⟨some 19,.mv (.tmp 6),none⟩,⟨some 20,.conv .i64 (.tmp 19),none⟩,⟨some 21,.call (F zF) [.tmp 18,.tmp 20],none⟩,⟨some 22,.call (F tSet) [.tmp 3,.tmp 17,.tmp 21],none⟩])) Q σ w:=by
 obtain ⟨S',e1,e2,hr,hkeep,hcase⟩:=hS.rd
 have hrS':rb ∉ S':=fun hx=>by
  rcases e2 _ hx with hx|⟨-,hx⟩
  ·simp only [List.mem_cons] at hx
   rcases hx with hx|hx|hx
   ·exact hr2 hx
   ·exact hrt hx
   ·exact hrS hx
  ·exact hx rfl
 rw [wpC_seq,kD]
 refine kC (v:=.pointer (some ⟨rb,0,none⟩)) (congrArg some h0) ?_
 refine xD (vs:=[.pointer (some ⟨rb,0,none⟩)]) (by simp only [List.map_cons,List.map_nil,ev,updo,upd,if_true]) (zO hm huv hk S' w rb s hr hrS') ?_
 rintro e w1 ⟨rfl,hr1,m1⟩
 refine ⟨_,rfl,?_⟩
 refine kC (v:=.pointer (some ⟨rb,0,none⟩)) (by simp only [RK.val?,ev,updo,upd];simp [h0]) ?_
 refine xD (vs:=[.pointer (some ⟨rb,0,none⟩)]) (by simp only [List.map_cons,List.map_nil,ev,updo,upd,if_true]) (zO hm huv hk S' w1 rb _ hr1 hrS') ?_
 rintro e w2 ⟨rfl,hr2',m2⟩
 refine ⟨_,rfl,?_⟩
 simp only at hr1 hr2' ⊢
 have hk1:=xQ s
 have hk2:=xQ (rdUv s).2
 generalize rdUv s=q1 at *
 obtain ⟨k,s1⟩:=q1
 simp only at *
 generalize rdUv s1=q2 at *
 obtain ⟨z,s2⟩:=q2
 simp only at *
 refine kC (v:=.int .u32 k) (by simp only [RK.val?,ev,updo,upd];simp) ?_
 refine kC (v:=.int .u32 z) (by simp only [RK.val?,ev,updo,upd];simp) ?_
 refine kE ?_
 generalize hσ:updo _ (some 6) _=σ1
 have q0:σ1 0=.pointer (some ⟨rb,0,none⟩):=by rw [←hσ];simp [updo,upd,h0]
 have q3:σ1 3=.pointer (some ⟨tb,0,none⟩):=by rw [←hσ];simp [updo,upd,h3]
 have q5:σ1 5=.int .u32 k:=by rw [←hσ];simp [updo,upd]
 have q6:σ1 6=.int .u32 z:=by rw [←hσ];simp [updo,upd]
 have qa :∀j,j<5→σ1 j=σ j:=fun j hj=>by
  rw [←hσ];simp only [updo,upd,show j≠6 by omega,show j≠5 by omega,show j≠16 by omega,show j≠15 by omega,show j≠14 by omega,show j≠13 by omega,if_false]
 clear hσ
 rw [kD]
 refine kC (v:=.int .u32 k) (congrArg some q5) ?_
 refine kC (v:=.pointer (some ⟨rb,0,none⟩)) (by simp only [RK.val?,ev,updo,upd];simp [q0]) ?_
 refine kC (v:=.int .u32 z) (by simp only [RK.val?,ev,updo,upd];simp [q6]) ?_
 refine kC (v:=.int .i64 z) (by simp only [RK.val?,ev,updo,upd,if_true,qX (n:=z) (by omega) (by omega)]) ?_
 refine xD (vs:=[.pointer (some ⟨rb,0,none⟩),.int .i64 z]) (by simp only [List.map_cons,List.map_nil,ev,updo,upd];simp) (zV hm hsp hr2' z) ?_
 rintro e w3 ⟨v,rfl,ho,hr3,m3⟩
 refine ⟨_,rfl,?_⟩
 have m03:Mod [rb] w w3:=(m1.trans m2).trans m3
 have hT3:=hkeep w3 _ hr3 m03
 have hb3:=hb.mod m03 (by simpa using hrt.symm)
 have hb23:=hb2.mod m03 (by simpa using hr2.symm)
 have hv:=ho.slcN
 have ntb:tb∈S':=e1 _ (by simp)
 have nb2:b2∈S':=e1 _ (by simp)
 have hTM:TagM (fun b=>b ∉ rb::S') w3 mv m:=by
  rcases hcase with ⟨c1,c2,-⟩|⟨r,c1,c2,c3,c4,c5,c6,c7⟩
  ·exact .inl ⟨c1,c2⟩
  ·exact .inr ⟨r,c1,c7.mod m03 (by simpa using c5) (by simp) fun _ _ h=>h⟩
 refine xD (vs:=[.pointer (some ⟨tb,0,none⟩),.int .u32 k,v]) (by simp only [List.map_cons,List.map_nil,ev,updo,upd];simp [q3]) (kNA hm hset hb3 hTM hk1 hv (fun h=>h (List.mem_cons_of_mem _ ntb)) (fun r hr=>by
  rcases hcase with ⟨c1,-,-⟩|⟨r',c1,c2,c3,c4,c5,c6,c7⟩
  ·rw [c1] at hr;simp at hr
  ·rw [c1] at hr
   simp only [Value.map.injEq,Option.some.injEq] at hr;subst hr
   exact ⟨fun h=>h (by rw [c6];simp),c3⟩)) ?_
 rintro e w4 ⟨rfl,r,hb4,hM4,hrtb,hmod4⟩
 refine ⟨_,rfl,?_⟩
 have hwl:w0.heap.size≤w3.heap.size:=(hmw.trans m03).size
 have hb2l:=hb23.lt
 have hb3l:=hb3.lt
 have hrl:=hr3.lt
 have hsub :∀{x},x∈S→x∈S':=fun hx=>e1 _ (by simp [hx])
 simp only [wpR]
 rcases hmod4 with ⟨c0,mm⟩|⟨c0,c1,mm⟩
 · -- the map was there
  rcases hcase with ⟨k1,-,-⟩|⟨r',k1,k2,k3,k4,k5,k6,k7⟩
  ·rw [k1] at c0;simp at c0
  ·rw [k1] at c0
   simp only [Value.map.injEq,Option.some.injEq] at c0;subst c0
   refine hQ _ w4 _ (fun j hj=>?_) hb4 (hb23.mod mm (by simp [h2t,k4.symm])) ?_ (.inr ⟨r',rfl,k2,k3,k4,k5,?_,?_⟩)
   ·rw [←qa j hj]
    simp only [updo,upd,show j≠22 by omega,show j≠21 by omega,show j≠20 by omega,show j≠19 by omega,show j≠18 by omega,show j≠17 by omega,if_false]
   ·refine Mod.drop (b:=tb) (S:=[rb]) ?_ htb
    refine Mod.drop (b:=r') (S:=[tb,rb]) ?_ k2
    exact ((hmw.trans m03).mono (by simp)).trans (mm.mono (by simp))
   ·rw [←k6]
    exact hM4.mod (Mod.refl [] _) (by simp) (by simp) fun b _ hb=>hb.1
   ·rw [←k6]
    refine hr3.mod mm (by simp [hrt,k5.symm]) fun x hx=>?_
    simp only [List.mem_cons,List.not_mem_nil,or_false] at hx
    rcases hx with rfl|rfl
    ·exact ntb
    ·rw [k6];simp
 ·rcases hcase with ⟨k1,k2,k3⟩|⟨r',k1,-⟩
  ·subst k3
   have hrr:r≠rb:=by omega
   have hr2b:r≠b2:=by omega
   refine hQ _ w4 _ (fun j hj=>?_) hb4 (hb23.mod mm (by simpa using h2t)) ?_ (.inr ⟨r,rfl,by omega,hrtb,hr2b,hrr,?_,?_⟩)
   ·rw [←qa j hj]
    simp only [updo,upd,show j≠22 by omega,show j≠21 by omega,show j≠20 by omega,show j≠19 by omega,show j≠18 by omega,show j≠17 by omega,if_false]
   ·refine Mod.drop (b:=tb) (S:=[rb]) ?_ htb
    exact ((hmw.trans m03).mono (by simp)).trans (mm.mono (by simp))
   ·refine hM4.mod (Mod.refl [] _) (by simp) (by simp) fun b _ hb=>?_
    simp only [List.mem_cons,not_or] at hb ⊢
    obtain ⟨⟨q1,q2,q3,q4⟩,q5⟩:=hb
    exact ⟨q1,by omega,q2,q3,q4⟩
   ·have h5:IsRd (b2::tb::S) w4 rb _:=hr3.mod mm (by simpa using hrt) (by simp)
    obtain ⟨base,len,cap,p1,p2,p3,p4⟩:=h5.ex
    obtain ⟨base',len',cap',p1',p2',p3',p4'⟩:=hr3.ex
    refine ⟨⟨base,len,cap,p1,p2,p3,fun a ha=>⟨(p4 a ha).1,?_,(p4 a ha).2.2⟩⟩,h5.short⟩
    -- the source's block is an old one
    have hsame:base'=base:=by
     have x1:=p1.cell 0
     have x2:=(p1'.mod mm (by simpa using hrt)).cell 0
     rw [x1] at x2
     have x3:base'=base∧len'=len∧cap'=cap:=by simpa using x2.symm
     exact x3.1
    subst hsame
    have:=(p4' a ha).2.2
    simp only [List.mem_cons,not_or]
    have q:=(p4 a ha).2.1
    simp only [List.mem_cons,not_or] at q
    exact ⟨by omega,q.1,q.2.1,q.2.2⟩
  ·rw [k1] at c0;simp at c0
theorem kLV (hm:P.follows .mixedOrders=true) (h:kH P (F kEE)=some (ir_tRead F)) (huv:kH P (F qB)=some (ir_rUvarint F)) (hk:kH P (F qH)=some (ir_kUvarint F)) (hsp:kH P (F zF)=some (ir_rSpan F)) (hset:kH P (F tSet)=some (ir_tSet F)) :
  RdG P (F kEE) 1 fun s=>(.tag (uD s).1,(uD s).2):=by
 intro S w rb s hr hrb hSl
 unfold ir_tRead at h
 refine kT h hm (by simp) ?_
 have a0:qE [.pointer (some ⟨rb,0,none⟩)] 0=.pointer (some ⟨rb,0,none⟩):=rfl
 generalize qE [.pointer (some ⟨rb,0,none⟩)]=σ0 at a0 ⊢
 have hrl:=hr.lt
 rw [wpC_seq,kD]
 refine kX ?_
 intro T2
 have b2:=Blk.new w [.map none] T2
 have m1:Mod [] w (w.alloc (.cells [Value.map none].toArray T2)):=Mod.alloc _ _ _
 have z1:(w.alloc (.cells [Value.map none].toArray T2)).heap.size=w.heap.size+1:=by simp
 generalize w.alloc (.cells [Value.map none].toArray T2)=w1 at b2 m1 z1 ⊢
 refine kE ?_
 rw [wpC_seq,kD]
 refine kX ?_
 intro T3
 have b3:=Blk.new w1 [.map none] T3
 have m2:Mod [] w1 (w1.alloc (.cells [Value.map none].toArray T3)):=Mod.alloc _ _ _
 have z2:(w1.alloc (.cells [Value.map none].toArray T3)).heap.size=w1.heap.size+1:=by simp
 generalize w1.alloc (.cells [Value.map none].toArray T3)=w2 at b3 m2 z2 ⊢
 refine kE ?_
 have hrd2:IsRd (w.heap.size::w1.heap.size::S) w2 rb s:=hr.kQN (m1.trans m2) fun x hx=>by
  simp only [List.mem_cons] at hx
  rcases hx with rfl|rfl|hx
  ·exact .inr (Nat.le_refl _)
  ·exact .inr (by omega)
  ·exact .inl hx
 have n1:rb≠w.heap.size:=by omega
 have n2:rb≠w1.heap.size:=by omega
 rw [wpC_seq,wpC_seq,kD]
 refine kC (v:=.pointer (some ⟨rb,0,none⟩)) (by simp only [RK.val?,ev,updo,upd];simp [a0]) ?_
 refine xD (vs:=[.pointer (some ⟨rb,0,none⟩)]) (by simp only [List.map_cons,List.map_nil,ev,updo,upd,if_true]) (zO hm huv hk _ w2 rb s hrd2 (by simp [n1,n2,hrb])) ?_
 rintro e w3 ⟨rfl,hr3,m3⟩
 refine ⟨_,rfl,?_⟩
 simp only at hr3 ⊢
 refine kC (v:=.int .u32 (rdUv s).1) (by simp only [RK.val?,ev,updo,upd,if_true]) ?_
 refine kE ?_
 generalize hσ:updo _ (some 4) _=σ1
 have q0:σ1 0=.pointer (some ⟨rb,0,none⟩):=by rw [←hσ];simp [updo,upd,a0]
 have q2:σ1 2=.pointer (some ⟨w.heap.size,0,none⟩):=by rw [←hσ];simp [updo,upd]
 have q3:σ1 3=.pointer (some ⟨w1.heap.size,0,none⟩):=by rw [←hσ];simp [updo,upd]
 have q4:σ1 4=.int .u32 (rdUv s).1:=by rw [←hσ];simp [updo,upd]
 clear hσ
 have hk1:=xQ s
 have hres:kAL (rdUv s).1 [] (rdUv s).2=uD s:=rfl
 rw [wpC_block,wpC_loop]
 -- behind the loop
 have hfin :∀(σ':Sl) (w':World) (mv:Value),σ' 2=.pointer (some ⟨w.heap.size,0,none⟩)→σ' 3=.pointer (some ⟨w1.heap.size,0,none⟩)→Blk w' w1.heap.size [mv]→Blk w' w.heap.size [.map none]→Mod [rb] w w' →
   TagS S w.heap.size w' rb w1.heap.size w.heap.size mv (uD s).1 (uD s).2 →
   wpC P (.seq (.blk [⟨some 23,.ldn (.tmp 3) 1,none⟩,⟨none,.st (.tmp 2) 1 (.tmp 23),none⟩]) .ret) (postC [.cells 2 1] fun e w' =>∃v,e=.returned v∧(v.cells.size=1∧Rep (rb::S) w' (.tag (uD s).1) v.cells.toList)∧IsRd S w' rb (uD s).2∧Mod [rb] w w') σ' w':=by
  intro σ' w' mv s2 s3 hb3 hb2 hm' hT
  have h1c:mv.oneCell'=true:=by
   rcases hT with ⟨rfl,-⟩|⟨r,rfl,-⟩<;>rfl
  rw [wpC_seq,kD]
  refine kC (v:=.agg #[mv]) (by simp only [RK.val?,ev,s3,kJ hb3.cells (n:=1) rfl,Option.map_some]) ?_
  refine kX ?_
  have ec:(Value.agg #[mv]).cells=#[mv]:=rfl
  have hput:Mod [w.heap.size] w' (putCells w' ⟨w.heap.size,0,none⟩ 0 [mv]):=Mod.put (by simp)
  have hp:=hb2.put (o:=0) (vs:=[mv]) (by simp)
  rw [jW (by rfl)] at hp
  simp only [RK.run,ev,updo,upd,if_true,show (2:Nat)≠23 by decide,if_false,s2,ec]
  refine ⟨rfl,yN hb2 (by simp) h1c,?_⟩
  refine kE ?_
  simp only [wpC,postC,rvals,List.mapM_cons,List.mapM_nil,RV.val,upd,show (2:Nat)≠23 by decide,if_false,s2]
  rw [kJ hp.cells (n:=1) rfl]
  simp only [Option.bind_eq_bind,Option.map_some,Option.bind_some,Option.pure_def,zR]
  have hmf:Mod [rb] w (putCells w' ⟨w.heap.size,0,none⟩ 0 [mv]):=Mod.drop (b:=w.heap.size) (S:=[rb]) ((hm'.mono (by simp)).trans (hput.mono (by simp))) (Nat.le_refl _)
  refine ⟨_,rfl,⟨rfl,?_⟩,?_,hmf⟩
  ·show Rep (rb::S) _ _ [mv]
   rcases hT with ⟨rfl,e2,-⟩|⟨r,rfl,k1,k2,k3,k4,k5,k6⟩
   ·rw [e2];exact .tag0
   ·refine .tag1 (fun hx=>?_) ((k5.mod hput (by simpa using k3) (by simp) fun _ _ h=>h).mod (Mod.refl [] _) (by simp) (by simp) fun b _ hb hx=>hb (by
     rcases List.mem_cons.1 hx with rfl|hx
     ·simp
     ·simp [hx]))
    rcases List.mem_cons.1 hx with rfl|hx
    ·exact k4 rfl
    ·have:=hSl _ hx;omega
  ·rcases hT with ⟨-,-,k6⟩|⟨r,-,-,-,-,-,-,k6⟩
   ·exact (k6.mod hput (by simpa using n1) (by simp)).kM9 fun x hx=>by simp [hx]
   ·exact (k6.mod hput (by simpa using n1) (by simp)).kM9 fun x hx=>by simp [hx]
 refine ⟨fun σ' w' =>∃n m s' mv,σ' 0=.pointer (some ⟨rb,0,none⟩)∧σ' 2=.pointer (some ⟨w.heap.size,0,none⟩)∧σ' 3=.pointer (some ⟨w1.heap.size,0,none⟩)∧σ' 4=.int .u32 (n:Nat)∧n<4294967296∧Blk w' w1.heap.size [mv]∧Blk w' w.heap.size [.map none] ∧
   Mod [rb] w w'∧TagS S w.heap.size w' rb w1.heap.size w.heap.size mv m s'∧kAL n m s'=uD s,
  fun σ' _=>match σ' 4 with|.int _ n=>n.toNat|_=>0,⟨(rdUv s).1,[],(rdUv s).2,.map none,q0,q2,q3,q4,hk1,b3.mod m3 (by simpa using n2.symm),(b2.mod m2 (by simp)).mod m3 (by simpa using n1.symm),((m1.trans m2).nil).trans m3,.inl ⟨rfl,rfl,hr3⟩,hres⟩,?_⟩
 rintro σ w' ⟨n,m,s',mv,s0,s2,s3,s4,hn,hb,hb2,hmw,hT,hN⟩
 rw [wpC_seq,wpC_seq,kD]
 refine kC (v:=.int .u32 n) (congrArg some s4) ?_
 refine kC (v:=.bool (decide (0<n))) (by
  simp only [RK.val?,ev,updo,upd,if_true,kL,decide_true,Bool.or_true,kM]
  congr 2;exact decide_eq_decide.2 (by omega)) ?_
 refine kE ?_
 by_cases h0:0<n
 ·rw [kI (by simp only [ev,updo,upd,if_true,h0,decide_true]),wpC_skip]
  simp only [kF]
  rw [wpC_seq,wpC_block]
  obtain ⟨n',rfl⟩ :∃n',n=n'+1:=⟨n-1,by omega⟩
  refine kPE (w0:=w) hm huv hk hsp hset (by simp [updo,upd,s0]) (by simp [updo,upd,s3]) hb hb2 hT n2 n1 (by omega) hrb hSl (by omega) hmw fun σ2 w4 mv' a2 hb4 hb24 hmw4 hT4=>?_
  simp only [kR,kF]
  rw [kD]
  have t4:σ2 4=.int .u32 ((n'+1:Nat):Int):=by rw [a2 4 (by omega)];simp [updo,upd,s4]
  refine kC (v:=.int .u32 ((n'+1:Nat):Int)) (congrArg some t4) ?_
  refine kC (v:=.int .u32 (n':Nat)) (by
   simp only [RK.val?,ev,updo,upd,if_true,kL,decide_true,Bool.or_true,kM]
   have e1:((n'+1:Nat):Int)-1=(n':Nat):=by omega
   rw [e1,kBS (by omega)]) ?_
  refine kC (v:=.int .u32 (n':Nat)) (by simp only [RK.val?,ev,updo,upd,if_true]) ?_
  simp only [wpR]
  refine ⟨⟨n',_,_,mv',?_,?_,?_,rfl,by omega,hb4,hb24,hmw4,hT4,hN⟩,?_⟩
  ·simp only [updo,upd];simp [a2 0 (by omega),s0,updo,upd]
  ·simp only [updo,upd];simp [a2 2 (by omega),s2,updo,upd]
  ·simp only [updo,upd];simp [a2 3 (by omega),s3,updo,upd]
  ·simp only [updo,upd,if_true,s4];omega
 ·rw [kG (by simp only [ev,updo,upd,if_true,h0,decide_false])]
  have:n=0:=by omega
  subst this
  simp only [kAL] at hN
  rw [←hN] at hfin
  have hf:=hfin (updo (updo σ (some 9) (.int .u32 ((0:Nat):Int))) (some 10) (.bool (decide (0<0)))) w' mv (by simp [updo,upd,s2]) (by simp [updo,upd,s3]) hb hb2 hmw hT
  rw [hN] at hf
  exact vP hf
end
def jM:Dec where
 len:=fun x s=>if x then jA s else yP s
 prim:=fun p x s=>match p with
 | .bool=>(.num (.bool (decide ((rdN 1 s).1≠0))),(rdN 1 s).2)
 | .i8=>(.num (.int .i8 (IntKind.i8.wrap (rdN 1 s).1)),(rdN 1 s).2)
 | .i16=>(.num (.int .i16 (IntKind.i16.wrap (rdN 2 s).1)),(rdN 2 s).2)
 | .u16=>(.num (.int .u16 (rdN 2 s).1),(rdN 2 s).2)
 | .i32=>(.num (.int .i32 (IntKind.i32.wrap (rdN 4 s).1)),(rdN 4 s).2)
 | .u32=>(.num (.int .u32 (rdN 4 s).1),(rdN 4 s).2)
 | .i64=>(.num (.int .i64 (IntKind.i64.wrap (rdN 8 s).1)),(rdN 8 s).2)
 | .uuid=>(.arr (wD s).1,(wD s).2)
 | .str=>if x then (.num (str (jZ s).1),(jZ s).2) else (.num (str (yO s).1),(yO s).2)
 | .nstr=>if x then (.nstr (kW s).1,(kW s).2) else (.nstr (kZ s).1,(kZ s).2)
 | .byt=>if x then (.byt (xJ s).1,(xJ s).2) else (.byt (wZ s).1,(wZ s).2)
 | .nbyt=>if x then (.byt (zQ s).1,(zQ s).2) else (.byt (zZ s).1,(zZ s).2)
 tags:=uD
structure Lib (P:Program) (F:Nat→Nat) (has:Nat→Bool):Prop where
 mixed:P.follows .mixedOrders=true
 zC:has Msk.zC=true→kH P (F Msk.zC)=some (ir_beUint16 F)
 jD:has Msk.jD=true→kH P (F Msk.jD)=some (ir_beUint32 F)
 xG:has Msk.xG=true→kH P (F Msk.xG)=some (ir_beUint64 F)
 qH:has Msk.qH=true→kH P (F Msk.qH)=some (ir_kUvarint F)
 qC:has Msk.qC=true→kH P (F Msk.qC)=some (ir_kUnsafeString F)
 rOk:has Msk.rOk=true→kH P (F Msk.rOk)=some (ir_rOk F)
 jX:has Msk.jX=true→kH P (F Msk.jX)=some (ir_rComplete F)
 zF:has Msk.zF=true→kH P (F Msk.zF)=some (ir_rSpan F)
 qB:has Msk.qB=true→kH P (F Msk.qB)=some (ir_rUvarint F)
 jT:has Msk.jT=true→kH P (F Msk.jT)=some (ir_rReadUint64 F)
 kHN:has Msk.kHN=true→kH P (F Msk.kHN)=some (ir_rBool F)
 kHO:has Msk.kHO=true→kH P (F Msk.kHO)=some (ir_rInt8 F)
 j5:has Msk.j5=true→kH P (F Msk.j5)=some (ir_rInt16 F)
 kAD:has Msk.kAD=true→kH P (F Msk.kAD)=some (ir_rUint16 F)
 y8:has Msk.y8=true→kH P (F Msk.y8)=some (ir_rInt32 F)
 kDF:has Msk.kDF=true→kH P (F Msk.kDF)=some (ir_rInt64 F)
 kHP:has Msk.kHP=true→kH P (F Msk.kHP)=some (ir_rUuid F)
 kAE:has Msk.kAE=true→kH P (F Msk.kAE)=some (ir_rString F)
 jP:has Msk.jP=true→kH P (F Msk.jP)=some (ir_rUnsafeString F)
 jE:has Msk.jE=true→kH P (F Msk.jE)=some (ir_rCompactString F)
 qU:has Msk.qU=true→kH P (F Msk.qU)=some (ir_rUnsafeCompactString F)
 zY:has Msk.zY=true→kH P (F Msk.zY)=some (ir_rNullableString F)
 qO:has Msk.qO=true→kH P (F Msk.qO)=some (ir_rUnsafeNullableString F)
 qM:has Msk.qM=true→kH P (F Msk.qM)=some (ir_rCompactNullableString F)
 qD:has Msk.qD=true→kH P (F Msk.qD)=some (ir_rUnsafeCompactNullableString F)
 kDG:has Msk.kDG=true→kH P (F Msk.kDG)=some (ir_rBytes F)
 jQ:has Msk.jQ=true→kH P (F Msk.jQ)=some (ir_rCompactBytes F)
 jF:has Msk.jF=true→kH P (F Msk.jF)=some (ir_rNullableBytes F)
 qP:has Msk.qP=true→kH P (F Msk.qP)=some (ir_rCompactNullableBytes F)
 xE:has Msk.xE=true→kH P (F Msk.xE)=some (ir_rArrayLen F)
 zK:has Msk.zK=true→kH P (F Msk.zK)=some (ir_rCompactArrayLen F)
 tSet:has Msk.tSet=true→kH P (F Msk.tSet)=some (ir_tSet F)
 kEE:has Msk.kEE=true→kH P (F Msk.kEE)=some (ir_tRead F)
def hasAll (has:Nat→Bool) (l:List Nat):Bool:=l.all has
theorem uE {has:Nat→Bool} {l:List Nat} (h:hasAll has l=true) :∀c∈l,has c=true:=by
 unfold hasAll at h;rwa [List.all_eq_true] at h
def kH5 (F:Nat→Nat) (has:Nat→Bool) (p:PK) (u x:Bool) (f:FuncId):Bool :=
 let ok (c:Nat) (l:List Nat):Bool:=f==F c&&hasAll has (c::l)
 match p with
 | .bool=>ok kHN []
 | .i8=>ok kHO []
 | .i16=>ok j5 [zC]
 | .u16=>ok kAD [zC]
 | .i32=>ok y8 [jD]
 | .u32=>false
 | .i64=>ok kDF [jT,xG]
 | .uuid=>ok kHP [zF]
 | .str=>match u,x with
   | true,true=>ok qU [qB,qH,zF,qC]
   | true,false=>ok jP [j5,zC,zF,qC]
   | false,true=>ok jE [qB,qH,zF]
   | false,false=>ok kAE [j5,zC,zF]
 | .nstr=>match u,x with
   | true,true=>ok qD [qB,qH,zF,qC]
   | true,false=>ok qO [j5,zC,zF,qC]
   | false,true=>ok qM [qB,qH,zF]
   | false,false=>ok zY [j5,zC,zF]
 | .byt=>if x then ok jQ [qB,qH,zF] else ok kDG [y8,jD,zF]
 | .nbyt=>if x then ok qP [qB,qH,zF] else ok jF [y8,jD,zF]
def kPF (F:Nat→Nat) (has:Nat→Bool) (x:Bool) (f:FuncId):Bool :=
 if x then f==F zK&&hasAll has [zK,qB,qH] else f==F xE&&hasAll has [xE,y8,jD]
section
variable {P:Program} {F:Nat→Nat} {has:Nat→Bool} {f:FuncId}
theorem RdC.g {val:RS→Value×RS} (h:RdC P f val) (h1 :∀s,(val s).1.cells=#[(val s).1]) (h2 :∀s,(val s).1.oneCell'=true):RdG P f 1 fun s=>(.num (val s).1,(val s).2) :=
 fun S w rb s hr hrb _=>(h S w rb s hr hrb).mono fun e w' ⟨e1,e2,e3⟩=>⟨_,e1,⟨by rw [h1];rfl,by rw [h1];exact .num (h2 s)⟩,e2,e3⟩
theorem RdC.l {val:RS→Int×RS} (h:RdC P f fun s=>(.int .i32 (val s).1,(val s).2)):RdL P f val :=
 fun S w rb s hr hrb _=>(h S w rb s hr hrb).mono fun _e _w' ⟨e1,e2,e3⟩=>⟨_,e1,rfl,e2,e3⟩
theorem OctX.cells {O:List Nat} {w:World} {v:Value} {o:Option (List UInt8)} (h:OctX O w v o):v.cells=#[v]:=by
 cases o with
 | none=>have:=h.1;simp only [kMW] at this;subst this;rfl
 | some l=>obtain ⟨a,n,c,rfl,-⟩:=h.1;rfl
theorem PStr.rep {O:List Nat} {n:Nat} {w:World} {v:Value} {o:Option (List UInt8)} (h:PStr n w v o) (hO :∀y∈O,y<n):v.cells=#[v]∧Rep O w (.nstr o) [v]:=by
 cases o with
 | none=>simp only [PStr] at h;subst h;exact ⟨rfl,.nstr0⟩
 | some l =>
 obtain ⟨b,rfl,hb,hc⟩:=h
 exact ⟨rfl,.nstr1 (fun hx=>by have:=hO _ hx;omega) hc⟩
theorem kQO (n:Int):IntKind.i32.wrap n≤2147483647:=by
 simp only [IntKind.wrap,IntKind.bits,IntKind.signed];simp;split<;>omega
theorem kCV (s:RS):(jA s).1≤(jA s).2.src.length∧(jA s).1≤2147483647:=by
 unfold jA;simp only
 split
 ·simp
 ·rename_i h;exact ⟨by simpa using h,kQO _⟩
theorem kH6:jM.kJN:=by
 intro x s
 simp only [jM]
 split
 ·exact kCV s
 ·simp only [yP]
  split
  ·simp
  ·rename_i h;exact ⟨by simpa using h,kQO _⟩
theorem kKU {dec:RS→Option (List UInt8)×RS} (h :∀(S:List Nat) (w:World) (rb:Nat) (s:RS),IsRd S w rb s→rb ∉ S→(∀y∈S,y<w.heap.size) →
 Calls P f [.pointer (some ⟨rb,0,none⟩)].toArray w fun e w' =>∃v,e=.returned v∧OctX (rb::S) w' v (dec s).1∧IsRd S w' rb (dec s).2∧Mod [rb] w w'):RdG P f 1 fun s=>(.byt (dec s).1,(dec s).2) :=
 fun S w rb s hr hrb hS=>(h S w rb s hr hrb hS).mono fun e w' ⟨v,e1,e2,e3,e4⟩=>⟨v,e1,⟨by rw [e2.cells];rfl,by rw [e2.cells];exact .byt e2⟩,e3,e4⟩
theorem kGN {dec:RS→Option (List UInt8)×RS} (h :∀(S:List Nat) (w:World) (rb:Nat) (s:RS),IsRd S w rb s→rb ∉ S →
 Calls P f [.pointer (some ⟨rb,0,none⟩)].toArray w fun e w' =>∃v,e=.returned v∧PStr w.heap.size w' v (dec s).1∧IsRd S w' rb (dec s).2∧Mod [rb] w w'):RdG P f 1 fun s=>(.nstr (dec s).1,(dec s).2) :=
 fun S w rb s hr hrb hS=>(h S w rb s hr hrb).mono fun e w' ⟨v,e1,e2,e3,e4⟩=>by
 obtain ⟨k1,k2⟩:=e2.rep (O:=rb::S) (fun y hy=>by
 rcases List.mem_cons.1 hy with rfl|hy
 ·exact hr.lt
 ·exact hS y hy)
 exact ⟨v,e1,⟨by rw [k1];rfl,by rw [k1];exact k2⟩,e3,e4⟩
variable (L:Lib P F has)
include L
theorem kQP (h:has rOk=true):OkC P (F rOk):=fun _S _w _rb _s hr=>kO6 L.mixed (L.rOk h) hr
theorem cpl_std (h:has jX=true):CplC P (F jX) (F gErr):=fun _S _w _rb _s _T _v hr hg=>kE5 L.mixed (L.jX h) hr hg
theorem kPG (h:hasAll has [kEE,qB,qH,zF,tSet]=true):RdG P (F kEE) 1 fun s=>(.tag (jM.tags s).1,(jM.tags s).2):=by
 have h:=uE h
 exact kLV L.mixed (L.kEE (h _ (by simp))) (L.qB (h _ (by simp))) (L.qH (h _ (by simp))) (L.zF (h _ (by simp))) (L.tSet (h _ (by simp)))
theorem kNB {x:Bool} (h:kPF F has x f=true):RdL P f (jM.len x):=by
 unfold kPF at h
 cases x with
 | true =>
   simp only [if_true,Bool.and_eq_true,beq_iff_eq] at h
   obtain ⟨rfl,h⟩:=h
   have h:=uE h
   exact (kAK L.mixed (L.zK (h _ (by simp))) (L.qB (h _ (by simp))) (L.qH (h _ (by simp)))).l
 | false =>
   simp only [Bool.false_eq_true,if_false,Bool.and_eq_true,beq_iff_eq] at h
   obtain ⟨rfl,h⟩:=h
   have h:=uE h
   exact (kE6 L.mixed (L.xE (h _ (by simp))) (L.y8 (h _ (by simp))) (L.jD (h _ (by simp)))).l
theorem kCW {p:PK} {u x:Bool} (h:kH5 F has p u x f=true):RdG P f p.size (jM.prim p x):=by
 have hm:=L.mixed
 have spl :∀{c:Nat} {l:List Nat},(f==F c&&hasAll has (c::l))=true→f=F c ∧∀y∈c::l,has y=true:=fun h=>by
  simp only [Bool.and_eq_true,beq_iff_eq] at h
  exact ⟨h.1,uE h.2⟩
 cases p with
 | bool=>obtain ⟨rfl,q⟩:=spl h;exact (kLS hm (L.kHN (q _ (by simp)))).g (fun _=>rfl) fun _=>rfl
 | i8=>obtain ⟨rfl,q⟩:=spl h;exact (kLT hm (L.kHO (q _ (by simp)))).g (fun _=>rfl) fun _=>rfl
 | i16=>obtain ⟨rfl,q⟩:=spl h;exact (wY hm (L.j5 (q _ (by simp))) (L.zC (q _ (by simp)))).g (fun _=>rfl) fun _=>rfl
 | u16=>obtain ⟨rfl,q⟩:=spl h;exact (kH1 hm (L.kAD (q _ (by simp))) (L.zC (q _ (by simp)))).g (fun _=>rfl) fun _=>rfl
 | i32=>obtain ⟨rfl,q⟩:=spl h;exact (uS hm (L.y8 (q _ (by simp))) (L.jD (q _ (by simp)))).g (fun _=>rfl) fun _=>rfl
 | u32=>simp [kH5] at h
 | i64=>obtain ⟨rfl,q⟩:=spl h;exact (kJO hm (L.kDF (q _ (by simp))) (L.jT (q _ (by simp))) (L.xG (q _ (by simp)))).g (fun _=>rfl) fun _=>rfl
 | uuid =>
   obtain ⟨rfl,q⟩:=spl h
   exact fun S w rb s hr hrb _=>(kLU hm (L.kHP (q _ (by simp))) (L.zF (q _ (by simp))) S w rb s hr hrb).mono fun e w' ⟨e1,e2,e3⟩ =>
    ⟨_,e1,⟨by have:=kFI s;simp [Value.cells,u8s,this,PK.size],.arr⟩,e2,e3⟩
 | str =>
   cases u with
   | true=>cases x with
     | true=>obtain ⟨rfl,q⟩:=spl h;exact (vX hm (L.qU (q _ (by simp))) (L.qB (q _ (by simp))) (L.qH (q _ (by simp))) (L.zF (q _ (by simp))) (L.qC (q _ (by simp)))).g (fun _=>rfl) fun _=>rfl
     | false=>obtain ⟨rfl,q⟩:=spl h;exact (kCE hm (L.jP (q _ (by simp))) (L.j5 (q _ (by simp))) (L.zC (q _ (by simp))) (L.zF (q _ (by simp))) (L.qC (q _ (by simp)))).g (fun _=>rfl) fun _=>rfl
   | false=>cases x with
     | true=>obtain ⟨rfl,q⟩:=spl h;exact (kBT hm (L.jE (q _ (by simp))) (L.qB (q _ (by simp))) (L.qH (q _ (by simp))) (L.zF (q _ (by simp)))).g (fun _=>rfl) fun _=>rfl
     | false=>obtain ⟨rfl,q⟩:=spl h;exact (kHW hm (L.kAE (q _ (by simp))) (L.j5 (q _ (by simp))) (L.zC (q _ (by simp))) (L.zF (q _ (by simp)))).g (fun _=>rfl) fun _=>rfl
 | nstr =>
   cases u with
   | true=>cases x with
     | true=>obtain ⟨rfl,q⟩:=spl h;exact kGN fun S w rb s hr hrb=>xK hm (L.qD (q _ (by simp))) (L.qB (q _ (by simp))) (L.qH (q _ (by simp))) (L.zF (q _ (by simp))) (L.qC (q _ (by simp))) hr hrb
     | false=>obtain ⟨rfl,q⟩:=spl h;exact kGN fun S w rb s hr hrb=>vK hm (L.qO (q _ (by simp))) (L.j5 (q _ (by simp))) (L.zC (q _ (by simp))) (L.zF (q _ (by simp))) (L.qC (q _ (by simp))) hr hrb
   | false=>cases x with
     | true=>obtain ⟨rfl,q⟩:=spl h;exact kGN fun S w rb s hr hrb=>vB hm (L.qM (q _ (by simp))) (L.qB (q _ (by simp))) (L.qH (q _ (by simp))) (L.zF (q _ (by simp))) hr hrb
     | false=>obtain ⟨rfl,q⟩:=spl h;exact kGN fun S w rb s hr hrb=>kBF hm (L.zY (q _ (by simp))) (L.j5 (q _ (by simp))) (L.zC (q _ (by simp))) (L.zF (q _ (by simp))) hr hrb
 | byt =>
   cases x with
   | true=>obtain ⟨rfl,q⟩:=spl h;exact kKU fun S w rb s hr hrb hS=>kCG hm (L.jQ (q _ (by simp))) (L.qB (q _ (by simp))) (L.qH (q _ (by simp))) (L.zF (q _ (by simp))) hr hrb hS
   | false=>obtain ⟨rfl,q⟩:=spl h;exact kKU fun S w rb s hr hrb hS=>kJP hm (L.kDG (q _ (by simp))) (L.y8 (q _ (by simp))) (L.jD (q _ (by simp))) (L.zF (q _ (by simp))) hr hrb hS
 | nbyt =>
   cases x with
   | true=>obtain ⟨rfl,q⟩:=spl h;exact kKU fun S w rb s hr hrb _=>vL hm (L.qP (q _ (by simp))) (L.qB (q _ (by simp))) (L.qH (q _ (by simp))) (L.zF (q _ (by simp))) hr hrb
   | false=>obtain ⟨rfl,q⟩:=spl h;exact kKU fun S w rb s hr hrb _=>kBP hm (L.jF (q _ (by simp))) (L.y8 (q _ (by simp))) (L.jD (q _ (by simp))) (L.zF (q _ (by simp))) hr hrb
end
def dfL:List (Nat×Value)→Nat→List IC
 | [],_=>[]
 | (off,v)::r,t=>.blk [⟨some t,.mv (.tmp 0),none⟩,⟨some (t+1),.nilc (.tmp t),none⟩,⟨some (t+2),.fad (.tmp (t+1)) off,none⟩,⟨none,.st (.tmp (t+2)) 1 (.const v),none⟩]::dfL r (t+3)
def kPH (l:List (Nat×Value)):IC×List RV×Nat:=(seqs (dfL l 2),[],2+3*l.length)
def kGO:List (Nat×Value)→List Value→List Value
 | [],z=>z
 | (off,v)::r,z=>kGO r (z.set off v)
def dfOk (l:List (Nat×Value)) (n:Nat):Prop :=∀p∈l,p.1<n∧p.2.cells=#[p.2]∧p.2.oneCell'=true
def dfOkB (l:List (Nat×Value)) (n:Nat):Bool:=l.all fun p=>Nat.blt p.1 n&&match p.2 with
 | .int ..|.bool _|.string _|.pointer _=>true
 | _=>false
theorem kJQ {l:List (Nat×Value)} {n:Nat} (h:dfOkB l n=true):dfOk l n:=by
 intro p hp
 unfold dfOkB at h
 rw [List.all_eq_true] at h
 have:=h p hp
 simp only [Bool.and_eq_true] at this
 refine ⟨Nat.lt_of_succ_le (Nat.le_of_ble_eq_true this.1),?_⟩
 have h2:=this.2
 cases hv:p.2<;>rw [hv] at h2<;>first|(simp at h2;done)|exact ⟨rfl,rfl⟩
section
variable {P:Program}
theorem kEJ (pre z post:List Value) (off:Nat) (v:Value) (h:off<z.length):splice (pre++(z++post)) (pre.length+off) [v]=pre++(z.set off v++post):=by
 unfold splice
 rw [List.take_length_add_append,List.take_append_of_le_length (by omega)]
 have e:pre.length+off+[v].length=pre.length+(off+1):=by simp;omega
 rw [e,List.drop_length_add_append,List.drop_append_of_le_length (by omega),List.set_eq_take_append_cons_drop,if_pos h]
 simp
theorem kQQ {B:Nat} {pre post:List Value} :∀(l:List (Nat×Value)) (t:Nat) (z:List Value) (σ:Sl) (w:World) (Q:Exit→Sl→World→Prop),1≤t→dfOk l z.length→σ 0=.pointer (some ⟨B,pre.length,none⟩) →
  Blk w B (pre++(z++post))→(∀σ' w',Mod [B] w w'→Blk w' B (pre++(kGO l z++post))→Q .normal σ' w')→wpL P (dfL l t) Q σ w
 | [],t,z,σ,w,Q,ht,hok,h0,hb,hQ=>hQ σ w (Mod.refl _ _) hb
 | (off,v)::r,t,z,σ,w,Q,ht,hok,h0,hb,hQ=>by
   obtain ⟨ho,hv,h1⟩:=hok (off,v) List.mem_cons_self
   simp only at ho hv h1
   simp only [dfL,wpL,wpC,wpR,RI.wp,gOk,if_true,RK.run,ev,updo]
   simp only [upd,if_true,h0,Addr.kK,hv]
   have hput:Mod [B] w (putCells w ⟨B,pre.length+off,none⟩ 0 [v]):=Mod.put (by simp)
   refine ⟨rfl,qL hb (by simp;omega) (by simpa using h1),?_⟩
   have hp:=hb.put (o:=pre.length+off) (vs:=[v]) (by simp;omega)
   rw [kEJ _ _ _ _ _ ho] at hp
   simp only [kF]
   refine kQQ r (t+3) (z.set off v) _ _ Q (by omega) (fun p hp=>by rw [List.length_set];exact hok p (List.mem_cons_of_mem _ hp)) ?_ (by simpa using hp) fun σ' w' hm hb'=>hQ σ' w' (hput.trans hm) hb'
   simp only [upd,show (0:Nat)≠t by omega,show (0:Nat)≠t+1 by omega,show (0:Nat)≠t+2 by omega,if_false,h0]
theorem df_call (hm:P.follows .mixedOrders=true) {f:FuncId} {l:List (Nat×Value)} (h:kH P f=some (kPH l)) {z d:List Value} (hok:dfOk l z.length) (hd:kGO l z=d):DfC P f z d:=by
 intro w B pre post hb
 refine kT h hm (by simp;omega) ?_
 rw [yB]
 refine kQQ l 2 z _ w _ (by omega) hok rfl hb fun σ' w' hm' hb'=>?_
 simp only [postC,rvals,List.mapM_nil,Option.pure_def,tup]
 exact ⟨trivial,hd▸hb',hm'⟩
end
def Sc.okB (F:Nat→Nat) (has:Nat→Bool) (u x:Bool):Sc→Bool
 | .nil=>true
 | .prm _ _ r p d rest=>kH5 F has p u x (r.sel u x)&&decide (p.size=d.size)&&rest.okB F has u x
 | .enm _ _ r p d rest=>kH5 F has p u x (r.sel u x)&&decide (p.size=d.size)&&rest.okB F has u x
 | .lsp _ len bytes d _ r p rest=>kPF F has x (len.sel u x)&&decide (bytes.b≤32768)&&kH5 F has p u x (r.sel u x)&&decide (p.size=d.size)&&rest.okB F has u x
 | .lss _ len bytes z _ body rest=>kPF F has x (len.sel u x)&&decide (bytes.b≤32768)&&decide (z.length=body.size)&&body.okB F has u x&&rest.okB F has u x
 | .sub _ _ body rest=>body.okB F has u x&&rest.okB F has u x
 | .tags f=>!x||(f==F kEE&&hasAll has [kEE,qB,qH,zF,tSet])
 | .uid _ f rest=>kH5 F has .uuid u x f&&rest.okB F has u x
 | .vst _ _ r1 r2 rest=>kH5 F has .str u x (r1.sel u x)&&kH5 F has .nstr u x (r2.sel u x)&&rest.okB F has u x
def Sc.dfs:Sc→List (FuncId×List Value×List Value)
 | .nil=>[]
 | .prm _ _ _ _ _ rest=>rest.dfs
 | .enm _ _ _ _ _ rest=>rest.dfs
 | .lsp _ _ _ _ _ _ _ rest=>rest.dfs
 | .lss _ _ _ z dfl body rest=>(dfl,z,body.dcs.flatten)::(body.dfs++rest.dfs)
 | .sub _ dfl body rest=>(dfl,body.dcs.flatten,body.dcs.flatten)::(body.dfs++rest.dfs)
 | .tags _=>[]
 | .uid _ _ rest=>rest.dfs
 | .vst _ _ _ _ rest=>rest.dfs
def kCH (P:Program):List (FuncId×List Value×List Value)→Prop
 | []=>True
 | p::l=>DfC P p.1 p.2.1 p.2.2∧kCH P l
theorem kCH.append {P:Program} {l l':List (FuncId×List Value×List Value)} (h:kCH P (l++l')):kCH P l∧kCH P l':=by
 induction l with
 | nil=>exact ⟨trivial,h⟩
 | cons p l ih=>exact ⟨⟨h.1,(ih h.2).1⟩,(ih h.2).2⟩
theorem Sc.kH7 {P:Program} {F:Nat→Nat} {has:Nat→Bool} (L:Lib P F has) {u x:Bool} :∀sc:Sc,sc.okB F has u x=true→kCH P sc.dfs→sc.Ok P jM u x:=by
 intro sc
 induction sc with
 | nil=>intro _ _;trivial
 | prm vc i r p d rest ih =>
   intro h hd
   simp only [Sc.okB,Bool.and_eq_true,decide_eq_true_eq] at h
   exact ⟨kCW L h.1.1,h.1.2,ih h.2 hd⟩
 | enm vc i r p d rest ih =>
   intro h hd
   simp only [Sc.okB,Bool.and_eq_true,decide_eq_true_eq] at h
   exact ⟨kCW L h.1.1,h.1.2,ih h.2 hd⟩
 | lsp vc len b d i r p rest ih =>
   intro h hd
   simp only [Sc.okB,Bool.and_eq_true,decide_eq_true_eq] at h
   exact ⟨kNB L h.1.1.1.1,h.1.1.1.2,kCW L h.1.1.2,h.1.2,ih h.2 hd⟩
 | lss vc len b z dfl body rest ihb ih =>
   intro h hd
   simp only [Sc.okB,Bool.and_eq_true,decide_eq_true_eq] at h
   obtain ⟨k1,k2⟩:=kCH.append hd.2
   exact ⟨kNB L h.1.1.1.1,h.1.1.1.2,h.1.1.2,hd.1,ihb h.1.2 k1,ih h.2 k2⟩
 | sub vc dfl body rest ihb ih =>
   intro h hd
   simp only [Sc.okB,Bool.and_eq_true] at h
   obtain ⟨k1,k2⟩:=kCH.append hd.2
   exact ⟨hd.1,ihb h.1 k1,ih h.2 k2⟩
 | vst vc V r1 r2 rest ih =>
   intro h hd
   simp only [Sc.okB,Bool.and_eq_true] at h
   exact ⟨kCW L h.1.1,kCW L h.1.2,fun s=>by cases x<;>exact ⟨_,rfl⟩,ih h.2 hd⟩
 | uid vc f rest ih =>
   intro h hd
   simp only [Sc.okB,Bool.and_eq_true] at h
   exact ⟨kCW L h.1,ih h.2 hd⟩
 | tags f =>
   intro h _ hx
   simp only [Sc.okB,hx,Bool.not_true,Bool.false_or,Bool.and_eq_true,beq_iff_eq] at h
   obtain ⟨rfl,h⟩:=h
   exact kPG L h
def Top.okB (F:Nat→Nat) (has:Nat→Bool) (T:Top):Bool :=
 (match T.rv with|none=>true|some f=>f==F j5&&hasAll has [j5,zC])&&(!T.sc.lists||(T.ok==F rOk&&has rOk))&&(T.cpl==F jX&&has jX) &&
 T.sc.okB F has true false&&T.sc.okB F has false false&&(T.flex.isNone||(T.sc.okB F has true true&&T.sc.okB F has false true))
end Go.Msk
namespace Go.Msk
open Go.RowKit Go.ChangeShapes Go.WideShapes Go.ChangeAt
set_option maxRecDepth 100000
theorem Mod.keptBut {W W':World} (h:Mod [] W W') (may:MemPlace→Prop):W.keptBut W' may:=by
 refine ⟨h.os,h.output,fun i hi=>?_⟩
 rw [h.block i hi (by simp)]
 cases W.heap[i]? with
 | none=>rfl
 | some o=>cases o<;>simp
theorem kJR {H:Type} {enc:TypeId×Value→H} {P:Program} {f:Func} {s:ChangeSpec} {apart fresh handsOn:Bool} {W W':World} {args:Array Value} {v:Value} {ds gs:List (DataW H)} {before pa pv:List MemPlace}
 (hW:DataW.Whole enc P f.params.toList s.vars apart W args.toList ds gs before)
 (hres :∀b:Nat,DataW.TrodAll enc P W' b (fun _=>false) handsOn f.resultTypes.toList (v.resultList f.resultTypes.size) (s.fn H (ds++gs)).results [])
 (hargs:DataW.TrodAll enc P W' 0 (fun b=>decide (b<W.heap.size)) true f.params.toList args.toList (s.fn H (ds++gs)).args pa)
 (hvars:DataW.TrodVars enc P W' (fun b=>decide (b<W.heap.size)) s.vars (s.fn H (ds++gs)).vars pv) (hm:Mod [] W W'):s.post enc P f apart fresh handsOn false W args v W' :=
 ⟨ds,gs,before,[],pa,pv,hW,hres _,hargs,hvars,hm.keptBut _,fun h=>by simp at h⟩
theorem u8_of {n:Int} (h:(Lit.int .u8 n).wf=true):0≤n∧n<256:=by
 simp only [Lit.wf,Bool.and_eq_true,decide_eq_true_eq] at h
 have h1:IntKind.u8.min=0:=by rfl
 have h2:IntKind.u8.max=255:=by rfl
 omega
section
variable {H:Type} {enc:TypeId×Value→H} {P:Program} {W:World}
theorem kH8 {n:String} {g:Nat} {t:TypeId} {ms:Array (String×TypeId)} {tn:String} {d:DataW Unit} (hg:P.globalNamed n=some g) (ht:(P.globals[g]?).map (·.type)=some t) (hi:P.underlying t=some (.interface ms))
 (hl:laidMetH P [(n,.iface tn d)] W) (hh:([(n,DataW.iface (H:=Unit) tn d)].all fun x=>x.2.handleName?.isNone)=true) :∃T v,GErr g W T v:=by
 rw [MakeChecks.laidMetH_plain _ _ _ hh] at hl
 obtain ⟨ps,⟨g0,t0,cs0,f0,p0,q0,hg0,ht0,hv0,hd0,-⟩,-,-⟩:=hl
 obtain rfl:=Option.some.inj (hg.symm.trans hg0)
 obtain rfl:=Option.some.inj (ht.symm.trans ht0)
 obtain ⟨_,u,v,hcs,-,-⟩:=iface_of_trod hi hd0
 refine ⟨u,v,?_⟩
 have:=World.var?_cell hg hv0 0
 rw [Array.eq_one_of_toList hcs] at this
 simpa [GErr] using this
end
end Go.Msk
namespace Go.Msk
open Go.RowKit
set_option maxRecDepth 100000
inductive TR where
 | mk (n:Int) (s:List UInt8) (null:Bool) (l:List TR) (u:List (Nat×List UInt8))
 deriving Inhabited
inductive RepU (ok:Nat→Prop) (w:World):List (Nat×List UInt8)→List (List Value)→Prop
 | nil:RepU ok w [] []
 | cons {k:Nat} {b:List UInt8} {u:List (Nat×List UInt8)} {v:Value} {css:List (List Value)}:SlC ok w v b.length (u8s b)→RepU ok w u css→RepU ok w ((k,b)::u) ([.int .u32 k,v]::css)
mutual
inductive RepT (ok:Nat→Prop) (w:World):TR→List Value→Prop
 | mk {n:Int} {s:List UInt8} {null:Bool} {l:List TR} {u:List (Nat×List UInt8)} {sv lv uv:Value} {css uss:List (List Value)}:SlC ok w sv s.length (u8s s)→SlC ok w lv l.length css.flatten→jN ok w l css →
 SlC ok w uv u.length uss.flatten→RepU ok w u uss→RepT ok w (.mk n s null l u) [.int .i64 n,sv,.bool null,lv,uv]
inductive jN (ok:Nat→Prop) (w:World):List TR→List (List Value)→Prop
 | nil:jN ok w [] []
 | cons {t:TR} {l:List TR} {cs:List Value} {css:List (List Value)}:RepT ok w t cs→jN ok w l css→jN ok w (t::l) (cs::css)
end
theorem RepU.mod {ok ok':Nat→Prop} {S:List Nat} {w w':World} {u:List (Nat×List UInt8)} {css:List (List Value)} (h:RepU ok w u css) (hm:Mod S w w') (hS :∀b∈S,¬ok b) (ho :∀b,b<w.heap.size→ok b→ok' b):RepU ok' w' u css:=by
 induction h with
 | nil=>exact .nil
 | cons h _ ih=>exact .cons (h.mod hm hS ho) ih
theorem RepT.mod {ok ok':Nat→Prop} {S:List Nat} {w w':World} (hm:Mod S w w') (hS :∀b∈S,¬ok b) (ho :∀b,b<w.heap.size→ok b→ok' b) {t:TR} {cs:List Value} (h:RepT ok w t cs):RepT ok' w' t cs:=by
 refine RepT.rec (motive_1:=fun t cs _=>RepT ok' w' t cs) (motive_2:=fun l css _=>jN ok' w' l css) ?_ ?_ ?_ h
 ·intro n s null l u sv lv uv css uss h1 h2 _ h4 h5 ih
  exact .mk (h1.mod hm hS ho) (h2.mod hm hS ho) ih (h4.mod hm hS ho) (h5.mod hm hS ho)
 ·exact .nil
 ·intro t l cs css _ _ ih1 ih2;exact .cons ih1 ih2
theorem jN.mod {ok ok':Nat→Prop} {S:List Nat} {w w':World} (hm:Mod S w w') (hS :∀b∈S,¬ok b) (ho :∀b,b<w.heap.size→ok b→ok' b) {l:List TR} {css:List (List Value)} (h:jN ok w l css):jN ok' w' l css:=by
 induction l generalizing css with
 | nil=>cases h;exact .nil
 | cons t l ih=>cases h with|cons h1 h2=>exact .cons (h1.mod hm hS ho) (ih h2)
theorem jN.append {ok:Nat→Prop} {w:World} {l l':List TR} {css css':List (List Value)} (h:jN ok w l css) (h':jN ok w l' css'):jN ok w (l++l') (css++css'):=by
 induction l generalizing css with
 | nil=>cases h;exact h'
 | cons g l ih=>cases h with|cons h1 h2=>exact .cons h1 (ih h2)
theorem jN.length {ok:Nat→Prop} {w:World} {l:List TR} {css:List (List Value)} (h:jN ok w l css):l.length=css.length:=by
 induction l generalizing css with
 | nil=>cases h;rfl
 | cons g l ih=>cases h with|cons h1 h2=>simp [ih h2]
theorem RepT.five {ok:Nat→Prop} {w:World} {t:TR} {cs:List Value} (h:RepT ok w t cs):cs.length=5:=by cases h;rfl
theorem jN.five {ok:Nat→Prop} {w:World} {l:List TR} {css:List (List Value)} (h:jN ok w l css) :∀cs∈css,cs.length=5:=by
 induction l generalizing css with
 | nil=>cases h;simp
 | cons g l ih =>
 cases h with
 | cons h1 h2 =>
 intro cs hc
 rcases List.mem_cons.1 hc with rfl|hc
 ·exact h1.five
 ·exact ih h2 cs hc
theorem RepT.oneCell {ok:Nat→Prop} {w:World} {t:TR} {cs:List Value} (h:RepT ok w t cs) :∀v∈cs,v.oneCell'=true:=by
 cases h with
 | mk h1 h2 h3 h4 h5 =>
 intro v hv
 simp only [List.mem_cons,List.not_mem_nil,or_false] at hv
 rcases hv with rfl|rfl|rfl|rfl|rfl
 ·rfl
 ·exact h1.one
 ·rfl
 ·exact h2.one
 ·exact h4.one
theorem Cells.app {w:World} {B o:Nat} {a b:List Value} (h:Cells w ⟨B,o,none⟩ (a++b)):Cells w ⟨B,o,none⟩ a∧Cells w ⟨B,o+a.length,none⟩ b:=by
 refine ⟨?_,?_⟩
 ·have:=h.take a.length;rwa [List.take_left] at this
 ·have:=h.sub a.length;rwa [List.drop_left] at this
theorem Cells.each {w:World} {B o sz:Nat} {css:List (List Value)} (h:Cells w ⟨B,o,none⟩ css.flatten) (hs :∀c∈css,c.length=sz) {j:Nat} {c:List Value} (hj:css[j]?=some c):Cells w ⟨B,o+j*sz,none⟩ c:=by
 induction css generalizing j o with
 | nil=>simp at hj
 | cons d css ih =>
 have hd:=hs d (by simp)
 simp only [List.flatten_cons] at h
 obtain ⟨h1,h2⟩:=h.app
 cases j with
 | zero=>simp at hj;subst hj;simpa using h1
 | succ j =>
 have:=ih h2 (fun c hc=>hs c (by simp [hc])) (by simpa using hj)
 rw [hd] at this
 rwa [show o+(j+1)*sz=o+sz+j*sz by rw [Nat.add_mul,Nat.one_mul];omega]
def TR.zero:TR:=.mk 0 [] false [] []
def tzero:List Value:=[.int .i64 0,.slice none 0 0,.bool false,.slice none 0 0,.slice none 0 0]
theorem RepT.num {ok:Nat→Prop} {w:World} (n:Int) (b:Bool):RepT ok w (.mk n [] b [] []) [.int .i64 n,.slice none 0 0,.bool b,.slice none 0 0,.slice none 0 0] :=
 .mk (css:=[]) (uss:=[]) SlC.nil SlC.nil .nil SlC.nil .nil
theorem RepT.zero {ok:Nat→Prop} {w:World}:RepT ok w TR.zero tzero:=.num 0 false
theorem RepT.oct {ok:Nat→Prop} {w:World} {v:Value} {s:List UInt8} (b:Bool) (h:SlC ok w v s.length (u8s s)):RepT ok w (.mk 0 s b [] []) [.int .i64 0,v,.bool b,.slice none 0 0,.slice none 0 0] :=
 .mk (css:=[]) (uss:=[]) h SlC.nil .nil SlC.nil .nil
def kPI (P:Program) (f:FuncId) (args:List Value) (w:World) (t:TR):Prop :=
 Calls P f args.toArray w fun e w' =>∃cs,e=.returned (.agg cs.toArray)∧RepT (fun b=>w.heap.size≤b) w' t cs∧Mod [] w w'
def insT (k:Nat) (l:List UInt8):List (Nat×List UInt8)→List (Nat×List UInt8)
 | []=>[(k,l)]
 | (k',l')::m=>if k<k' then (k,l)::(k',l')::m else (k',l')::insT k l m
def uF:List (Nat×List UInt8)→List (Nat×List UInt8)
 | []=>[]
 | (k,l)::m=>insT k l (uF m)
def GV.vC:List GV→List (Nat×List UInt8)
 | []=>[]
 | .tag m::_=>uF m
 | _::l=>GV.vC l
mutual
/-- What a value is told as. -/
def GV.told:GV→TR
 | .num (.int _ n)=>.mk (IntKind.i64.wrap n) [] false [] []
 | .num (.bool b)=>.mk (if b then 1 else 0) [] false [] []
 | .num (.string s)=>.mk 0 s.data.toList false [] []
 | .num _=>.zero
 | .nstr none=>.mk 0 [] true [] []
 | .nstr (some l)=>.mk 0 l false [] []
 | .byt none=>.mk 0 [] true [] []
 | .byt (some l)=>.mk 0 l false [] []
 | .arr l=>.mk 0 l false [] []
 | .lst isnil _ l=>.mk 0 [] isnil (GV.wI l) []
 | .rcd l=>.mk 0 [] false (GV.vD l) (GV.vC l)
 | .tag _=>.zero
def GV.wI:List GV→List TR
 | []=>[]
 | g::l=>g.told::GV.wI l
/-- The fields, but for the unknown tags. -/
def GV.vD:List GV→List TR
 | []=>[]
 | g::l=>match g with
 | .tag _=>GV.vD l
 | g=>g.told::GV.vD l
end
theorem GV.uG (l:List GV):GV.wI l=l.map GV.told:=by
 induction l with
 | nil=>simp [GV.wI]
 | cons g l ih=>simp [GV.wI,ih]
theorem GV.wP {g:GV} {l:List GV} (h :∀m,g≠.tag m):GV.vD (g::l)=g.told::GV.vD l:=by
 cases g with
 | tag m=>exact absurd rfl (h m)
 | _=>simp only [GV.vD]
theorem Rep.fresh {O O' T:List Nat} {w w':World} (hm:Mod T w w') (hT :∀x∈T,x∈O∨w.heap.size≤x) (hO :∀x∈O',x∈O∨w.heap.size≤x) {g:GV} {cs:List Value} (h:Rep O w g cs):Rep O' w' g cs:=by
 have hcell :∀{a:Addr} {v:Value},w.cell? a=some v→a.block ∉ O→w'.cell? a=some v:=by
  intro a v hc hn
  exact zH hc hm fun hx=>(hT _ hx).elim hn fun hge=>by have:=World.block_lt_of_cell? w a hc;omega
 refine Rep.rec (motive_1:=fun g cs _=>Rep O' w' g cs) (motive_2:=fun l css _=>RepL O' w' l css) ?_ ?_ ?_ ?_ ?_ ?_ ?_ ?_ ?_ ?_ ?_ ?_ h
 ·intro v hv;exact .num hv
 ·exact .nstr0
 ·intro b l hb hc
  refine .nstr1 (fun hx=>(hO _ hx).elim hb fun hge=>?_) (hcell hc hb)
  have:=World.block_lt_of_cell? w ⟨b,0,none⟩ hc
  simp only at this;omega
 ·intro v o ho
  refine .byt ⟨?_,fun a n c e=>⟨fun hx=>(hO _ hx).elim (ho.2 a n c e).1 fun hge=>by have:=(ho.2 a n c e).2;omega,Nat.lt_of_lt_of_le (ho.2 a n c e).2 hm.size⟩⟩
  obtain ⟨h1,h2⟩:=ho
  cases o with
  | none=>exact h1
  | some l =>
    obtain ⟨a,n,c,rfl,hb⟩:=h1
    exact ⟨a,n,c,rfl,hb.mod hm (fun a' e hc=>by cases e;exact (hT _ hc).elim (h2 a n c rfl).1 fun hge=>by have:=(h2 a n c rfl).2;omega)⟩
 ·intro l;exact .arr
 ·intro sz;exact .lst0
 ·intro a n c sz l css ha hlt hn hc hsz _ hcells ih
  exact .lst1 (fun hx=>(hO _ hx).elim ha fun hge=>by omega) (Nat.lt_of_lt_of_le hlt hm.size) hn hc hsz ih (hcells.mod hm (.inr fun hx=>(hT _ hx).elim ha fun hge=>by omega))
 ·intro l css _ ih;exact .rcd ih
 ·exact .tag0
 ·intro r m hr h
  have hlt:=h.lt
  have h2:y9 (fun b=>b ∉ O∧b<w.heap.size) w r m:=h.mod (Mod.refl [] _) (by simp) (by simp) fun b hb hx=>⟨hx,hb⟩
  exact .tag1 (fun hx=>(hO _ hx).elim hr fun hge=>by omega) (h2.mod hm (fun hx=>(hT _ hx).elim hr fun hge=>by omega) (fun b hb hx=>(hT _ hb).elim hx.1 fun hge=>by omega)
   fun b _ hx hy=>(hO _ hy).elim hx.1 fun hge=>by omega)
 ·exact .nil
 ·intro g l cs css _ _ ih1 ih2;exact .cons ih1 ih2
theorem RepL.fresh {O O' T:List Nat} {w w':World} (hm:Mod T w w') (hT :∀x∈T,x∈O∨w.heap.size≤x) (hO :∀x∈O',x∈O∨w.heap.size≤x) {l:List GV} {css:List (List Value)} (h:RepL O w l css):RepL O' w' l css:=by
 induction l generalizing css with
 | nil=>cases h;exact .nil
 | cons g l ih=>cases h with|cons h1 h2=>exact .cons (h1.fresh hm hT hO) (ih h2)
inductive TK where
 | num (conv:Bool)
 | str
 | boo (f:FuncId)
 | txt (f:FuncId)
 | oct (f:FuncId)
 deriving Inhabited
def TK.ty:TK→GV→Prop
 | .num true,g =>∃k n,g=.num (.int k n)
 | .num false,g =>∃n,g=.num (.int .i64 n)∧IntKind.i64.wrap n=n
 | .str,g =>∃l,g=.num (Msk.str l)
 | .boo _,g =>∃b,g=.num (.bool b)
 | .txt _,g =>∃o,g=.nstr o
 | .oct _,g =>∃o,g=.byt o ∧∀l,o=some l→l.length≤2147483647
theorem TK.kNC {k:TK} {m:List (Nat×List UInt8)} (h:k.ty (.tag m)):False:=by
 cases k with
 | num c=>cases c<;>simp [TK.ty] at h
 | _=>simp [TK.ty] at h
theorem TK.one {k:TK} {g:GV} {O:List Nat} {w:World} {cs:List Value} (h:k.ty g) (hr:Rep O w g cs):cs.length=1:=by
 cases k with
 | num c =>
   cases c with
   | true=>obtain ⟨_,_,rfl⟩:=h;cases hr;rfl
   | false=>obtain ⟨_,rfl,-⟩:=h;cases hr;rfl
 | str=>obtain ⟨_,rfl⟩:=h;cases hr;rfl
 | boo f=>obtain ⟨_,rfl⟩:=h;cases hr;rfl
 | txt f=>obtain ⟨_,rfl⟩:=h;cases hr<;>rfl
 | oct f=>obtain ⟨_,rfl,-⟩:=h;cases hr;rfl
def TK.Ok (P:Program):TK→Prop
 | .num _=>True
 | .str=>True
 | k@(.boo f)|k@(.txt f)|k@(.oct f) =>∀O w g v,k.ty g→Rep O w g [v]→kPI P f [v] w g.told
def TK.nt:TK→Nat
 | .num true=>9
 | .num false=>8
 | .str=>9
 | _=>8
def nd (r:RI):DI:=⟨r,false,[]⟩
def headD (t off:Nat):List DI :=
 [nd ⟨some t,.fad (.tmp 3) 3,none⟩,nd ⟨some (t+1),.ld (.tmp t),none⟩,nd ⟨some (t+2),.mv (.tmp 0),none⟩,nd ⟨some (t+3),.nilc (.tmp (t+2)),none⟩,nd ⟨some (t+4),.fad (.tmp (t+3)) off,none⟩,nd ⟨some (t+5),.ld (.tmp (t+4)),none⟩]
def TK.gen (i t off:Nat):TK→IC
 | .num true=>.drw (headD t off++[nd ⟨some (t+6),.conv .i64 (.tmp (t+5)),none⟩,nd ⟨some (t+7),.build tzero [(0,1,.tmp (t+6))],none⟩,nd ⟨some (t+8),.iad (.tmp (t+1)) (.const (.int .i64 i)) 5,none⟩])
   [⟨none,.st (.tmp (t+8)) 5 (.tmp (t+7)),none⟩]
 | .num false=>.drw (headD t off++[nd ⟨some (t+6),.build tzero [(0,1,.tmp (t+5))],none⟩,nd ⟨some (t+7),.iad (.tmp (t+1)) (.const (.int .i64 i)) 5,none⟩])
   [⟨none,.st (.tmp (t+7)) 5 (.tmp (t+6)),none⟩]
 | .str=>.drw (headD t off++[⟨⟨some (t+6),.s2b (.tmp (t+5)),none⟩,true,[]⟩,⟨⟨some (t+7),.build tzero [(1,1,.tmp (t+6))],none⟩,false,[6]⟩,⟨⟨some (t+8),.iad (.tmp (t+1)) (.const (.int .i64 i)) 5,none⟩,false,[6]⟩])
   [⟨none,.st (.tmp (t+8)) 5 (.tmp (t+7)),none⟩]
 | .boo f|.txt f|.oct f=>.drw (headD t off++[⟨⟨some (t+6),.call f [.tmp (t+5)],none⟩,true,[]⟩,⟨⟨some (t+7),.iad (.tmp (t+1)) (.const (.int .i64 i)) 5,none⟩,false,[6]⟩])
   [⟨none,.st (.tmp (t+7)) 5 (.tmp (t+6)),none⟩]
section
variable {P:Program}
theorem kH9 {t off Tb Lb n B base:Nat} {σ:Sl} {w:World} {v:Value} (ht:4≤t)
  (h0:σ 0=.pointer (some ⟨B,base,none⟩)) (h3:σ 3=.pointer (some ⟨Tb,0,none⟩)) (c3:w.cell? ⟨Tb,3,none⟩=some (.slice (some ⟨Lb,0,none⟩) n n)) (hc:w.cell? ⟨B,base+off,none⟩=some v) :
  ∃v0 v1 v2 v3 v4,(RK.fad (.tmp 3) 3).val? σ w=some v0∧(RK.ld (.tmp t)).val? (upd σ t v0) w=some v1∧(RK.mv (.tmp 0)).val? (upd (upd σ t v0) (t+1) v1) w=some v2 ∧
   (RK.nilc (.tmp (t+2))).val? (upd (upd (upd σ t v0) (t+1) v1) (t+2) v2) w=some v3∧(RK.fad (.tmp (t+3)) off).val? (upd (upd (upd (upd σ t v0) (t+1) v1) (t+2) v2) (t+3) v3) w=some v4 ∧
   (RK.ld (.tmp (t+4))).val? (upd (upd (upd (upd (upd σ t v0) (t+1) v1) (t+2) v2) (t+3) v3) (t+4) v4) w=some v ∧
   Ag t σ (upd (upd (upd (upd (upd (upd σ t v0) (t+1) v1) (t+2) v2) (t+3) v3) (t+4) v4) (t+5) v) ∧
   (upd (upd (upd (upd (upd (upd σ t v0) (t+1) v1) (t+2) v2) (t+3) v3) (t+4) v4) (t+5) v) (t+1)=.slice (some ⟨Lb,0,none⟩) n n ∧
   (upd (upd (upd (upd (upd (upd σ t v0) (t+1) v1) (t+2) v2) (t+3) v3) (t+4) v4) (t+5) v) (t+5)=v:=by
 refine ⟨.pointer (some ⟨Tb,3,none⟩),.slice (some ⟨Lb,0,none⟩) n n,.pointer (some ⟨B,base,none⟩),.pointer (some ⟨B,base,none⟩),.pointer (some ⟨B,base+off,none⟩),?_,?_,?_,?_,?_,?_,?_,?_,?_⟩
 ·simp only [RK.val?,ev,h3,Addr.kK,Nat.zero_add]
 ·simp only [RK.val?,ev,upd_same,c3]
 ·simp only [RK.val?,ev,upd,show (0:Nat)≠t by omega,show (0:Nat)≠t+1 by omega,if_false,h0]
 ·simp only [RK.val?,ev,upd_same]
 ·simp only [RK.val?,ev,upd_same,Addr.kK]
 ·simp only [RK.val?,ev,upd_same,hc]
 ·intro j hj
  simp only [upd,show j≠t by omega,show j≠t+1 by omega,show j≠t+2 by omega,show j≠t+3 by omega,show j≠t+4 by omega,show j≠t+5 by omega,if_false]
 ·simp only [upd,show t+1≠t+5 by omega,show t+1≠t+4 by omega,show t+1≠t+3 by omega,show t+1≠t+2 by omega,if_false,if_true]
 ·simp only [upd_same]
theorem kGP {t off Tb Lb n B base:Nat} {σ:Sl} {w:World} {v:Value} {r:List DI} {sk:List RI} {Q:Sl→World→Prop} (ht:4≤t)
 (h0:σ 0=.pointer (some ⟨B,base,none⟩)) (h3:σ 3=.pointer (some ⟨Tb,0,none⟩)) (c3:w.cell? ⟨Tb,3,none⟩=some (.slice (some ⟨Lb,0,none⟩) n n)) (hc:w.cell? ⟨B,base+off,none⟩=some v)
 (h :∀σ',Ag t σ σ'→σ' (t+1)=.slice (some ⟨Lb,0,none⟩) n n→σ' (t+5)=v→wpR P (r.map (·.ri)++sk) σ' w Q):wpR P ((headD t off++r).map (·.ri)++sk) σ w Q:=by
 obtain ⟨v0,v1,v2,v3,v4,e0,e1,e2,e3,e4,e5,e6,e7,e8⟩:=kH9 (v:=v) ht h0 h3 c3 hc
 simp only [headD,nd,List.cons_append,List.nil_append,List.map_cons]
 refine kC e0 (kC e1 (kC e2 (kC e3 (kC e4 (kC e5 ?_)))))
 exact h _ e6 e7 e8
theorem kFJ {t off Tb Lb n B base:Nat} {σ:Sl} {w:World} {v:Value} {r l:List DI} {Φ:Nat→Value→World→Prop} {E:Sl→Prop} (ht:4≤t)
 (h0:σ 0=.pointer (some ⟨B,base,none⟩)) (h3:σ 3=.pointer (some ⟨Tb,0,none⟩)) (c3:w.cell? ⟨Tb,3,none⟩=some (.slice (some ⟨Lb,0,none⟩) n n)) (hc:w.cell? ⟨B,base+off,none⟩=some v)
 (h :∀σ',Ag t σ σ'→σ' (t+1)=.slice (some ⟨Lb,0,none⟩) n n→σ' (t+5)=v→j4 P l Φ w E 6 r σ'):j4 P l Φ w E 0 (headD t off++r) σ:=by
 obtain ⟨v0,v1,v2,v3,v4,e0,e1,e2,e3,e4,e5,e6,e7,e8⟩:=kH9 (v:=v) ht h0 h3 c3 hc
 simp only [headD,nd,List.cons_append,List.nil_append]
 refine qQ e0 (qQ e1 (qQ e2 (qQ e3 (qQ e4 (qQ e5 ?_)))))
 exact h _ e6 e7 e8
theorem Blk.new' (w:World) (cs:List Value) (T:TypeId) (fr:Nat×Nat) (h:cs.length≤fr.1):Blk (w.alloc (.cells cs.toArray T fr)) w.heap.size cs :=
 ⟨T,fr,by show (w.heap.push _)[w.heap.size]?=_;simp,.inr h⟩
structure TW (w:World) (Tb Lb n:Nat) (cs:List Value):Prop where
 tb:Blk w Tb [.int .i64 0,.slice none 0 0,.bool false,.slice (some ⟨Lb,0,none⟩) n n,.slice none 0 0]
 lb:Blk w Lb cs
 ne:Tb≠Lb
theorem TK.wp {k:TK} (hk:k.Ok P) {i t off Tb Lb n B base:Nat} {O:List Nat} {pre post:List Value} {g:GV} {v:Value} {σ:Sl} {w:World} {Q:Exit→Sl→World→Prop} (ht:4≤t)
  (h0:σ 0=.pointer (some ⟨B,base,none⟩)) (h3:σ 3=.pointer (some ⟨Tb,0,none⟩)) (hw:TW w Tb Lb n (pre++(tzero++post))) (hpre:pre.length=i*5) (hi:i<n)
  (hg:k.ty g) (hr:Rep O w g [v]) (hc:w.cell? ⟨B,base+off,none⟩=some v)
  (hQ :∀σ' w' cs,Ag t σ σ'→Mod [Lb] w w'→RepT (fun b=>w.heap.size≤b) w' g.told cs→TW w' Tb Lb n (pre++(cs++post))→Q .normal σ' w'):wpC P (k.gen i t off) Q σ w:=by
 have c3:w.cell? ⟨Tb,3,none⟩=some (.slice (some ⟨Lb,0,none⟩) n n):=hw.tb.cell 3
 have c3':w.drew.cell? ⟨Tb,3,none⟩=some (.slice (some ⟨Lb,0,none⟩) n n):=c3
 have hc':w.drew.cell? ⟨B,base+off,none⟩=some v:=hc
 have hst :∀(w1:World) (cs:List Value),Mod [] w w1→RepT (fun b=>w.heap.size≤b) w1 g.told cs →
   StOk w1 ⟨Lb,i*5,none⟩ cs ∧∀σ',Ag t σ σ'→Q .normal σ' (putCells w1 ⟨Lb,i*5,none⟩ 0 cs):=by
  intro w1 cs hm hrep
  have hlb1:Blk w1 Lb (pre++(tzero++post)):=hw.lb.mod hm (by simp)
  have h5:=hrep.five
  have hput:Mod [Lb] w1 (putCells w1 ⟨Lb,i*5,none⟩ 0 cs):=Mod.put (by simp)
  refine ⟨qL hlb1 (by simp [tzero];omega) hrep.oneCell,fun σ' ha=>hQ σ' _ cs ha (hm.nil.trans hput) (hrep.mod hput (fun b hb=>?_) fun _ _ h=>h) ⟨?_,?_,hw.ne⟩⟩
  ·simp only [List.mem_singleton] at hb;subst hb;have:=hw.lb.lt;omega
  ·exact (hw.tb.mod hm (by simp)).mod hput (by simpa using hw.ne)
  ·have:=hlb1.put (o:=i*5) (vs:=cs) (by simp [tzero];omega)
   rwa [jY hpre (by simp [h5,tzero])] at this
 have callK :∀(f:FuncId) (k':TK),k'.gen i t off=.drw (headD t off++[⟨⟨some (t+6),.call f [.tmp (t+5)],none⟩,true,[]⟩,⟨⟨some (t+7),.iad (.tmp (t+1)) (.const (.int .i64 i)) 5,none⟩,false,[6]⟩])
   [⟨none,.st (.tmp (t+7)) 5 (.tmp (t+6)),none⟩]→(∀O w g v,k.ty g→Rep O w g [v]→kPI P f [v] w g.told)→wpC P (k'.gen i t off) Q σ w:=by
  intro f k' hgen hf
  rw [hgen]
  simp only [wpC]
  refine zM (fun _ v w1 =>∃cs,v=.agg cs.toArray∧RepT (fun b=>w.heap.size≤b) w1 g.told cs) (fun _ v w1 w2 h hm=>?_) (kFJ ht h0 h3 c3' hc' fun σ1 a1 s1 s5=>?_)
  ·obtain ⟨cs,h1,h2⟩:=h
   exact ⟨cs,h1,h2.mod hm (by simp) fun _ _ h=>h⟩
  refine wL (fun w1 hm1 _=>?_) fun u hu=>?_
  ·simp only [RK.run,ev,s5,List.map_cons,List.map_nil]
   have hm1':Mod [] w w1:=(Mod.drew _ _).trans hm1
   refine (hf O w1 g v hg (hr.fresh hm1' (by simp) (fun x hx=>.inl hx))).mono ?_
   rintro e w2 ⟨cs,rfl,hrep,hm2⟩
   exact ⟨_,rfl,hm2,cs,rfl,hrep.mod (Mod.refl [] _) (by simp) fun b _ hb=>Nat.le_trans hm1'.size hb⟩
  obtain ⟨wu,cs,rfl,hcs⟩:=hu
  refine qQ (v:=.pointer (some ⟨Lb,i*5,none⟩)) (by
    simp only [RK.val?,ev,updo,upd,show t+1≠t+6 by omega,if_false,s1]
    rw [if_pos (by omega)];simp [Addr.kK]) ?_
  simp only [j4]
  intro w1 hm1 hkn
  have h6:=hkn 6 (by simp [headD]) ⟨⟨some (t+6),.call f [.tmp (t+5)],none⟩,true,[]⟩ (by simp [headD]) rfl rfl (t+6) rfl
  simp only [updo,upd,show t+6≠t+7 by omega,if_false,if_true] at h6
  obtain ⟨cs',e1,h6⟩:=h6
  have e2:cs=cs':=by
   have:=congrArg (fun v=>match v with|Value.agg a=>a.toList|_=>[]) e1
   simpa using this
  subst e2
  obtain ⟨k1,k2⟩:=hst w1 _ ((Mod.drew _ _).trans hm1) h6
  simp only [wpR,RI.wp,gOk,if_true,RK.run,ev,updo,upd_same]
  have e7 :∀x,upd (upd σ1 (t+6) x) (t+7) (.pointer (some ⟨Lb,i*5,none⟩)) (t+6)=x:=fun x=>by
   simp only [upd,show t+6≠t+7 by omega,if_false,if_true]
  rw [e7]
  have hag:Ag t σ (upd (upd σ1 (t+6) (Value.agg cs.toArray)) (t+7) (.pointer (some ⟨Lb,i*5,none⟩))):=fun j hj=>by
   simp only [upd,show j≠t+6 by omega,show j≠t+7 by omega,if_false]
   exact a1 j hj
  exact ⟨by simp [Value.cells,hcs.five],by simpa [Value.cells] using k1,by simpa [Value.cells] using k2 _ hag⟩
 cases k with
 | num c =>
   cases c with
   | true =>
     obtain ⟨k,m,rfl⟩:=hg
     have hv:v=.int k m:=by cases hr;rfl
     subst hv
     simp only [TK.gen,wpC]
     refine xC rfl (kGP ht h0 h3 c3' hc' fun σ1 a1 s1 s5=>?_)
     obtain ⟨k1,k2⟩:=hst w.drew _ (Mod.drew _ _) (RepT.num (IntKind.i64.wrap m) false)
     simp only [nd,List.map_cons,List.map_nil,List.cons_append,List.nil_append]
     refine kC (v:=.int .i64 (IntKind.i64.wrap m)) (by simp only [RK.val?,ev,s5]) ?_
     refine kC (v:=.agg #[.int .i64 (IntKind.i64.wrap m),.slice none 0 0,.bool false,.slice none 0 0,.slice none 0 0]) (by simp only [RK.val?,ev,updo,upd_same,tzero,zW,List.map_cons,List.map_nil,Value.cells];simp [splice]) ?_
     refine kC (v:=.pointer (some ⟨Lb,i*5,none⟩)) (by
      simp only [RK.val?,ev,updo,upd,show t+1≠t+7 by omega,show t+1≠t+6 by omega,if_false,s1]
      rw [if_pos (by omega)];simp [Addr.kK]) ?_
     simp only [wpR,RI.wp,gOk,if_true,RK.run,ev,updo,upd_same]
     have e7 :∀x,upd (upd (upd σ1 (t+6) (Value.int .i64 (IntKind.i64.wrap m))) (t+7) x) (t+8) (.pointer (some ⟨Lb,i*5,none⟩)) (t+7)=x:=fun x=>by
      simp only [upd,show t+7≠t+8 by omega,if_false,if_true]
     rw [e7]
     refine ⟨rfl,k1,k2 _ fun j hj=>?_⟩
     simp only [upd,show j≠t+6 by omega,show j≠t+7 by omega,show j≠t+8 by omega,if_false]
     exact a1 j hj
   | false =>
     obtain ⟨m,rfl,hm⟩:=hg
     have hv:v=.int .i64 m:=by cases hr;rfl
     subst hv
     simp only [TK.gen,wpC]
     refine xC rfl (kGP ht h0 h3 c3' hc' fun σ1 a1 s1 s5=>?_)
     obtain ⟨k1,k2⟩:=hst w.drew _ (Mod.drew _ _) (RepT.num (IntKind.i64.wrap m) false)
     simp only [nd,List.map_cons,List.map_nil,List.cons_append,List.nil_append]
     refine kC (v:=.agg #[.int .i64 (IntKind.i64.wrap m),.slice none 0 0,.bool false,.slice none 0 0,.slice none 0 0]) (by simp only [RK.val?,ev,s5,tzero,zW,List.map_cons,List.map_nil,Value.cells];simp [splice,hm]) ?_
     refine kC (v:=.pointer (some ⟨Lb,i*5,none⟩)) (by
      simp only [RK.val?,ev,updo,upd,show t+1≠t+6 by omega,if_false,s1]
      rw [if_pos (by omega)];simp [Addr.kK]) ?_
     simp only [wpR,RI.wp,gOk,if_true,RK.run,ev,updo,upd_same]
     have e7 :∀x,upd (upd σ1 (t+6) x) (t+7) (.pointer (some ⟨Lb,i*5,none⟩)) (t+6)=x:=fun x=>by
      simp only [upd,show t+6≠t+7 by omega,if_false,if_true]
     rw [e7]
     refine ⟨rfl,k1,k2 _ fun j hj=>?_⟩
     simp only [upd,show j≠t+6 by omega,show j≠t+7 by omega,if_false]
     exact a1 j hj
 | str =>
   obtain ⟨l,rfl⟩:=hg
   have hv:v=Msk.str l:=by cases hr;rfl
   subst hv
   simp only [TK.gen,wpC]
   refine zM (fun _ v w1=>SlC (fun b=>w.heap.size≤b) w1 v l.length (u8s l)) (fun _ v w1 w2 h hm=>h.mod hm (by simp) fun _ _ h=>h) (kFJ ht h0 h3 c3' hc' fun σ1 a1 s1 s5=>?_)
   refine wL (fun w1 hm1 _=>?_) fun u hu=>?_
   ·simp only [RK.run,ev,s5,Msk.str]
    intro T cap rest hcap hrest
    have hsz:(⟨l.toArray⟩:ByteArray).size=l.length:=by simp [ByteArray.size]
    rw [hsz] at hcap hrest ⊢
    have hblk:=Blk.new' w1.drew (u8s l++rest) T (cap,cap+1) (by simp only [List.length_append,kY];omega)
    refine ⟨(Mod.drew _ _).trans (Mod.alloc _ _ _),some ⟨w1.heap.size,0,none⟩,cap,rfl,hcap,fun h=>by simp at h,fun a ha _=>?_⟩
    simp only [Option.some.injEq] at ha
    subst ha
    refine ⟨hm1.size,hblk.lt,?_⟩
    have:=hblk.cells.take (u8s l).length
    simpa using this
   refine qQ (v:=.agg #[.int .i64 0,u,.bool false,.slice none 0 0,.slice none 0 0]) ?_ ?_
   ·obtain ⟨w1,hu⟩:=hu
    obtain ⟨b1,c1,rfl,-⟩:=hu
    simp only [RK.val?,ev,updo,upd_same,tzero,zW,List.map_cons,List.map_nil,Value.cells];simp [splice]
   refine qQ (v:=.pointer (some ⟨Lb,i*5,none⟩)) (by
     simp only [RK.val?,ev,updo,upd,show t+1≠t+7 by omega,show t+1≠t+6 by omega,if_false,s1]
     rw [if_pos (by omega)];simp [Addr.kK]) ?_
   simp only [j4]
   intro w1 hm1 hkn
   have h6:=hkn 6 (by simp [headD]) ⟨⟨some (t+6),.s2b (.tmp (t+5)),none⟩,true,[]⟩ (by simp [headD]) rfl rfl (t+6) rfl
   simp only [updo,upd,show t+6≠t+8 by omega,show t+6≠t+7 by omega,if_false,if_true] at h6
   obtain ⟨k1,k2⟩:=hst w1 _ ((Mod.drew _ _).trans hm1) (RepT.oct false h6)
   simp only [wpR,RI.wp,gOk,if_true,RK.run,ev,updo,upd_same]
   have e7 :∀x,upd (upd (upd σ1 (t+6) u) (t+7) x) (t+8) (.pointer (some ⟨Lb,i*5,none⟩)) (t+7)=x:=fun x=>by
    simp only [upd,show t+7≠t+8 by omega,if_false,if_true]
   rw [e7]
   refine ⟨rfl,k1,k2 _ fun j hj=>?_⟩
   simp only [upd,show j≠t+6 by omega,show j≠t+7 by omega,show j≠t+8 by omega,if_false]
   exact a1 j hj
 | boo f=>exact callK f _ rfl hk
 | txt f=>exact callK f _ rfl hk
 | oct f=>exact callK f _ rfl hk
end
end Go.Msk
