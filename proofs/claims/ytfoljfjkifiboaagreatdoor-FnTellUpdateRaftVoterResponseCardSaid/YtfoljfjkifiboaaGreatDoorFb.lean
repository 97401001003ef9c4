/- A small language of resolved operations, and what the generic and the generated functions do in it (part 2). -/
import Derived.Test.YtfoljfjkifiboaaGreatDoorFa
import Derived.Scope
namespace Go.Msk
open Go.RowKit
section
variable {P:Program} {w:World} {σ:Sl} {K:Value→World→Prop} {ρ:Operand→Value}
theorem qJ {s:Sem Value} {v:Value} {w':World} (h:s.run P w=.ok v w') (hk:K v w') :
 Gives P ((do pure (Next.value (←s)):Sem Next).run P w) K:=by
 simp only [Sem.run_bind,h,Result.andThen_ok,Sem.run_pure];exact hk
theorem kML {s:Sem Unit} {w':World} (h:s.run P w=.ok () w') (hk:K undef w') :
 Gives P ((do s;pure Next.skip:Sem Next).run P w) K:=by
 simp only [Sem.run_bind,h,Result.andThen_ok,Sem.run_pure];exact hk
theorem kD2 {T:Nat} {d:TypeDesc} {p:Addr} {v:Value} (hd:P.underlying T=some d) (ha:yS d=false) (hv:w.cell? p=some v) :
  (loadVar T p).run P w=.ok v w:=by
 have:(isAgg T).run P w=.ok false w:=by
  simp only [isAgg,Sem.run_bind,kQ hd,Result.andThen_ok]
  cases d<;>first|rfl|(simp [yS] at ha)
 simp [loadVar,this,hv]
theorem kD3 {T n:Nat} {d:TypeDesc} {p:Addr} {vs:List Value} (hd:P.underlying T=some d) (ha:yS d=true)
  (hn:jL P T=some n) (hv:kV w p 0 n=some vs):(loadVar T p).run P w=.ok (.agg vs.toArray) w:=by
 have h1:(isAgg T).run P w=.ok true w:=by
  simp only [isAgg,Sem.run_bind,kQ hd,Result.andThen_ok]
  cases d<;>first|rfl|(simp [yS] at ha)
 have h2:=xP (P:=P) _ _ _ #[] hv
 simp [loadVar,h1,jV hn,loadCells,h2]
theorem kA6 (T:Nat) (x y:Value):Op.equal T x y=Op.equalIn (9999+1) T x y:=rfl
theorem kOU {T e b n c n' c'} (hd:P.underlying T=some (.slice e)):(Op.equal T (.slice b n c) (.slice none n' c')).run P w=.ok b.isNone w:=by
 rw [kA6];generalize 9999=d
 cases b<;>simp [Op.equalIn,kQ hd]
theorem kLI {T e b} (hd:P.underlying T=some (.pointer e)):(Op.equal T (.pointer b) (.pointer none)).run P w=.ok b.isNone w:=by
 rw [kA6];generalize 9999=d
 cases b<;>simp [Op.equalIn,kQ hd]
theorem eq_map {T k e b} (hd:P.underlying T=some (.map k e)):(Op.equal T (.map b) (.map none)).run P w=.ok b.isNone w:=by
 rw [kA6];generalize 9999=d
 cases b<;>simp [Op.equalIn,kQ hd]
theorem kOV {T m t v} (hd:P.underlying T=some (.interface m)):(Op.equal T (.iface t v) .nilIface).run P w=.ok false w:=by
 rw [kA6];generalize 9999=d
 simp [Op.equalIn,kQ hd]
theorem kMM {T m} (hd:P.underlying T=some (.interface m)):(Op.equal T .nilIface .nilIface).run P w=.ok true w:=by
 rw [kA6];generalize 9999=d
 simp [Op.equalIn,kQ hd]
theorem eq_bool {T a b} (hd:P.underlying T=some .bool):(Op.equal T (.bool a) (.bool b)).run P w=.ok (a==b) w:=by
 rw [kA6];generalize 9999=d
 simp [Op.equalIn,kQ hd]
theorem kHH {neg:Bool} {T:Nat} {yo xo:Operand} {d:TypeDesc} {nk:NK}
  (hd:P.underlying T=some d) (hn:kI8 d yo=some nk) (hr:ρ yo=ev σ yo) (hx:ρ xo=ev σ xo)
  (h:(RK.isnil nk neg xo).run P σ w K) :
  ∃v,(do eqGuard (if neg then .neq else .eql) T xo yo (ρ xo) (ρ yo);binOp (if neg then .neq else .eql) T (ρ xo) (ρ yo):Sem Value).run P w=.ok v w∧K v w:=by
 rw [hr,hx]
 simp only [RK.run] at h
 generalize ev σ xo=x at h ⊢
 unfold kI8 at hn
 split at hn<;>simp only [Option.some.injEq,reduceCtorEq] at hn<;>subst hn<;>simp only [ev]
 ·cases x<;>try exact h.elim
  refine ⟨_,?_,h⟩
  cases neg<;>simp only [eqGuard,binOp,if_true,if_false,Bool.false_eq_true,Sem.run_bind,kOU hd]<;>simp
 ·cases x<;>try exact h.elim
  refine ⟨_,?_,h⟩
  cases neg<;>simp only [eqGuard,binOp,if_true,if_false,Bool.false_eq_true,Sem.run_bind,kLI hd]<;>simp
 ·cases x<;>try exact h.elim
  refine ⟨_,?_,h⟩
  cases neg<;>simp only [eqGuard,binOp,if_true,if_false,Bool.false_eq_true,Sem.run_bind,eq_map hd]<;>simp
 ·cases x<;>try exact h.elim
  ·refine ⟨_,?_,h⟩
   cases neg<;>simp only [eqGuard,binOp,if_true,if_false,Bool.false_eq_true,Sem.run_bind,kOV hd]<;>simp
  ·refine ⟨_,?_,h⟩
   cases neg<;>simp only [eqGuard,binOp,if_true,if_false,Bool.false_eq_true,Sem.run_bind,kMM hd]<;>simp
theorem kLJ (w:World) (cs:Array Value) (e:TypeId) (cap:Nat) (hc:cs.size=cap) :
  (match (w.alloc (Obj.cells cs e)).shape? w.heap.size with
   | some (_,n)=>freeze {block:=w.heap.size,off:=n} 1
   | _=>pure ():Sem Unit).run P (w.alloc (Obj.cells cs e))=.ok () (w.alloc (Obj.cells cs e (cap,cap+1))):=by
 have h1:(w.alloc (Obj.cells cs e)).shape? w.heap.size=some (e,cap):=by
  simp only [World.shape?]
  show (match (w.heap.push (Obj.cells cs e))[w.heap.size]? with|some (.cells c elem _)=>some (elem,c.size)|_=>none)=_
  simp [hc]
 rw [h1]
 simp only [run_freeze]
 congr 1
 simp only [World.freeze]
 rw [if_neg (by decide)]
 simp only [World.alloc]
 congr 1
 apply Array.ext_getElem?
 intro i
 simp only [Array.getElem?_modify,Array.getElem?_push]
 by_cases hi:w.heap.size=i
 ·subst hi;simp
 ·rw [if_neg hi,if_neg (fun h=>hi h.symm),if_neg (fun h=>hi h.symm)]
theorem kHI {a:Addr} :∀(n i:Nat) (cs:List Value) (m:Nat),kV w a i n=some cs→m≤n→kV w a i m=some (cs.take m):=by
 intro n
 induction n with
 | zero => intro i cs m h hm;have:m=0:=by omega
           subst this;simp [kV]
 | succ n ih =>
   intro i cs m h hm
   cases m with
   | zero => simp [kV]
   | succ m =>
     simp only [kV] at h ⊢
     cases hv:w.cell? (a.add i) with
     | none => simp [hv] at h
     | some v =>
       cases hr:kV w a (i+1) n with
       | none => simp [hv,hr] at h
       | some r =>
         simp only [hv,hr,Option.some.injEq] at h;subst h
         simp only [ih (i+1) r m hr (by omega),List.take_succ_cons]
theorem kF6 {size:Nat} {x:Value} {n m:Nat} {src:List Value} (h:qI w size x=some (n,src)) (hm:m≤n) :
  (Builtin.firstCells size m x).run P w=.ok (src.take (m*size)).toArray w:=by
 unfold qI at h
 split at h
 ·rename_i b k c
  cases hc:kV w b 0 (k*size) with
  | none=>simp [hc] at h
  | some cs =>
    simp only [hc,Option.map_some,Option.some.injEq,Prod.mk.injEq] at h
    obtain ⟨rfl,rfl⟩:=h
    have:=xP (P:=P) _ _ _ #[] (kHI _ _ _ (m*size) hc (Nat.mul_le_mul_right _ hm))
    simpa [Builtin.firstCells,loadCells] using this
 ·split at h
  ·rename_i hn
   simp only [Option.some.injEq,Prod.mk.injEq] at h
   obtain ⟨rfl,rfl⟩:=h
   simp [Builtin.firstCells]
  ·simp at h
 ·split at h
  ·rename_i s hs
   simp only [Option.some.injEq,Prod.mk.injEq] at h
   obtain ⟨rfl,rfl⟩:=h
   subst hs
   simp only [Builtin.firstCells,Sem.run_pure,Nat.mul_one]
   congr 1
   apply Array.ext'
   simp only [Array.toList_map,u8s,←List.map_take]
   congr 1
   simp
  ·simp at h
 ·simp at h
theorem kD4 {k:IntKind} {i:Int} {y:Nat} {code:BoundsCode} (h0:0≤i) (h1:i≤y):(Instr.sliceBound (.int k i) y code).run P w=.ok i.toNat w:=by
 have:0≤i∧i≤(y:Int):=⟨h0,h1⟩
 simp [Instr.sliceBound,asIntOf,this]
theorem kD5 {n cap:Nat} {lo hi mx:Option Value} {l h m:Int} (hl:(lo=none∧l=0) ∨∃k,lo=some (.int k l))
  (hh:(hi=none∧h=n∧mx=none) ∨∃k,hi=some (.int k h)) (hm:(mx=none∧m=cap) ∨∃k,mx=some (.int k m))
  (h0:0≤l) (h1:l≤h) (h2:h≤m) (h3:m≤cap) :
  (Instr.sliceBounds true n cap lo hi mx).run P w=.ok (l.toNat,h.toNat,m.toNat) w:=by
 have e1 :∀k code,(Instr.sliceBound (.int k h) m.toNat code).run P w=.ok h.toNat w:=fun k code=>kD4 (by omega) (by omega)
 have e2 :∀k code,(Instr.sliceBound (.int k l) h.toNat code).run P w=.ok l.toNat w:=fun k code=>kD4 h0 (by omega)
 have e3 :∀k code,(Instr.sliceBound (.int k m) cap code).run P w=.ok m.toNat w:=fun k code=>kD4 (by omega) h3
 rcases hm with ⟨rfl,rfl⟩|⟨k3,rfl⟩
 ·simp only [Int.toNat_natCast] at e1 ⊢
  rcases hl with ⟨rfl,rfl⟩|⟨k,rfl⟩<;>rcases hh with ⟨rfl,rfl,-⟩|⟨k',rfl⟩
  ·simp [Instr.sliceBounds]
  ·simp [Instr.sliceBounds,e1]
  ·have:=e2 k .sliceB
   simp only [Int.toNat_natCast] at this
   simp [Instr.sliceBounds,this]
  ·simp [Instr.sliceBounds,e1,e2]
 ·rcases hl with ⟨rfl,rfl⟩|⟨k,rfl⟩<;>rcases hh with ⟨rfl,rfl,hx⟩|⟨k',rfl⟩
  ·simp at hx
  ·simp [Instr.sliceBounds,e1,e3]
  ·simp at hx
  ·simp [Instr.sliceBounds,e1,e2,e3]
theorem fillK {f:Nat→Option (Nat×Nat)} {ps:Array (Nat×Operand)} {qs:List (Nat×Nat×Operand)} {z cs:List Value} {zv:Value}
 (hz:zv.cells=z.toArray) (hev :∀x,ρ x=ev σ x) (hq:partsOf f ps.toList=some qs)
 (hf:zW z (qs.map fun p=>(p.1,p.2.1,ev σ p.2.2))=some cs) :
 Instr.fill f zv.cells (ps.map fun (i,x)=>(i,ρ x)).toList=some cs.toArray:=by
 have:=kI9 (σ:=σ) hq hf
 rw [hz,←this]
 congr 1
 simp only [Array.toList_map]
 apply List.map_congr_left
 intro p _
 simp [hev]
theorem kLK {t:TypeId} {name:String} {f:FuncId} {v:Value} (h:kMH P t name=some f):(method (P.types.size+Made.depth) t v name).run P w=.ok (f,v) w:=by
 obtain ⟨n,hn⟩ :∃n,P.types.size+Made.depth=n+1:=⟨P.types.size+Made.depth-1,by unfold Made.depth;omega⟩
 rw [hn]
 unfold kMH at h
 split at h
 ·rename_i i hi
  split at h
  ·rename_i m hm
   split at h
   ·rename_i hp
    have hp:m.path.toList=[]:=by simpa using hp
    unfold method
    have hti:(typeInfo t).run P w=.ok i w:=by simp [typeInfo,hi,Sem.run_bind,run_program]
    split at h
    ·rename_i f' pr hf
     split at h
     ·rename_i d hu
      have hd:(match d with|.pointer _=>pr|_=>!pr)=true∧f'=f:=by
       revert h;cases d<;>cases pr<;>simp
      obtain ⟨hd,rfl⟩:=hd
      simp only [Sem.run_bind,hti,Result.andThen_ok,hm,hp,follow,Sem.run_pure,hf,receiverAt,kQ hu]
      cases d<;>cases pr<;>first|rfl|(simp at hd)
     ·simp at h
    ·simp at h
   ·simp at h
  ·simp at h
 ·simp at h
theorem kDO {o:Oper} {k:RK} (hr:wT P o.op=some k) (hev :∀x,ρ x=ev σ x) (h:k.run P σ w K) :
  Gives P ((execOp ρ o).run P w) K:=by
 obtain ⟨dst,op,type,pos,after,guard⟩:=o
 simp only at hr
 unfold wT at hr
 split at hr
 · -- move
  simp only [Option.some.injEq] at hr;subst hr
  simp only [RK.run] at h
  simp only [execOp,Sem.run_pure,Gives,hev];exact h
 ·simp only [Option.some.injEq] at hr;subst hr
  simp only [RK.run] at h
  simp only [execOp,Sem.run_pure,Gives,hev];exact h
 · -- pick
  rename_i c a b
  simp only [Option.some.injEq] at hr;subst hr
  simp only [RK.run] at h
  split at h
  ·rename_i t ht
   have:(asBool (ev σ c)).run P w=.ok t w:=by rw [ht];rfl
   simp only [execOp,hev,Sem.run_bind,this,Result.andThen_ok,Sem.run_pure,Gives];exact h
  ·exact h.elim
 · -- alloc
  rename_i T
  cases hz:zeroAt P T with
  | none=>simp [hz] at hr
  | some z =>
    simp only [hz,Option.map_some,Option.some.injEq] at hr;subst hr
    obtain ⟨v,hv,hc⟩:=kCS (w:=w) hz
    refine qJ (v:=.pointer (some ⟨w.heap.size,0,none⟩)) ?_ (h T)
    simp [Instr.alloc,hv,newVar,newRow,hc]
 · -- box
  rename_i T x
  simp only [Option.some.injEq] at hr;subst hr
  refine qJ (v:=.pointer (some ⟨w.heap.size,0,none⟩)) ?_ (h T)
  simp [Instr.box,newVar,newRow,hev]
 · -- build
  rename_i T ps
  split at hr
  ·rename_i fields z hu hz
   split at hr
   ·rename_i places hpl
    cases hq:partsOf (places[·]?) ps.toList with
    | none=>simp [hq] at hr
    | some qs =>
      simp only [hq,Option.map_some,Option.some.injEq] at hr;subst hr
      simp only [RK.run] at h
      split at h
      ·rename_i cs hf
       obtain ⟨v,hv,hc⟩:=kCS (w:=w) hz
       have hfill:=fillK (ρ:=ρ) hc hev hq hf
       refine qJ ?_ h
       have hf2:Instr.fill (fun x=>places[x]?) v.cells (List.map (fun x=>(x.fst,ρ x.snd)) ps.toList)=some cs.toArray:=by
        simpa using hfill
       simp [Instr.build,hv,kQ hu,Array.mapM_eq_mapM_toList,run_places w _ _ hpl,hf2]
      ·exact h.elim
   ·simp at hr
  ·simp at hr
 · -- buildSlice
  rename_i T n ps
  split at hr
  ·rename_i e hu
   split at hr
   ·rename_i size z hs hz
    split at hr
    ·rename_i hc
     cases hq:partsOf (fun i=>some (i*size,size)) ps.toList with
     | none=>simp [hq] at hr
     | some qs =>
       simp only [hq,Option.map_some,Option.some.injEq] at hr;subst hr
       simp only [RK.run] at h
       split at h
       ·rename_i cs hf
        obtain ⟨hzl,hbound⟩:=hc
        obtain ⟨v,hv,hvc⟩:=kCS (w:=w) hz
        have hbig :¬(n*size>2^24):=by omega
        have hcells:(Array.range (n*size)).map (fun x=>z.toArray[x%z.toArray.size]!)=(zrep n z).toArray:=by
         have:=kC8 z.toArray n
         simp only [List.size_toArray] at this
         rw [←hzl];exact this
        have hfill:=fillK (ρ:=ρ) (z:=zrep n z) (zv:=.agg (zrep n z).toArray) rfl hev hq hf
        simp only [Value.cells] at hfill
        refine qJ (v:=.slice (some ⟨w.heap.size,0,none⟩) n n) ?_ (h e)
        by_cases h0:n*size=0
        ·have hz0:zrep n z=[]:=by
          apply List.eq_nil_of_length_eq_zero
          rcases Nat.mul_eq_zero.1 h0 with h0|h0
          ·simp [zrep,h0]
          ·have:z=[]:=List.eq_nil_of_length_eq_zero (by omega)
           simp [zrep,this]
         rw [hz0] at hfill
         simp only [Array.toList_map] at hfill
         simp [Instr.buildSlice,kQ hu,jV hs,h0,newRow,Array.range_zero']
         simp [hfill]
        ·simp [Instr.buildSlice,kQ hu,jV hs,hbig,h0,newRow,hv,hvc]
         simp only [List.size_toArray] at hcells
         simp only [Array.toList_map] at hfill
         have hcells':Array.map (fun x=>z.toArray[x%z.length]!) (Array.range (n*size))=(zrep n z).toArray:=hcells
         simp at hcells'
         rw [hcells']
         simp [hfill]
       ·exact h.elim
    ·simp at hr
   ·simp at hr
  ·simp at hr
 · -- load
  rename_i T a
  split at hr
  ·rename_i d hd
   split at hr
   ·rename_i ha
    cases hn:jL P T with
    | none=>simp [hn] at hr
    | some n =>
      simp only [hn,Option.map_some,Option.some.injEq] at hr;subst hr
      simp only [RK.run] at h
      split at h
      ·rename_i p hp
       split at h
       ·rename_i vs hvs
        refine qJ ?_ h
        simp [Instr.loadAt,hev,hp,Instr.sureAddr,kD3 hd ha hn hvs]
       ·exact h.elim
      ·exact h.elim
   ·rename_i ha
    simp only [Option.some.injEq] at hr;subst hr
    simp only [RK.run] at h
    split at h
    ·rename_i p hp
     split at h
     ·rename_i v hv
      refine qJ ?_ h
      simp [Instr.loadAt,hev,hp,Instr.sureAddr,kD2 hd (by simpa using ha) hv]
     ·exact h.elim
    ·exact h.elim
  ·simp at hr
 · -- store
  rename_i T a x
  cases hn:jL P T with
  | none=>simp [hn] at hr
  | some n =>
    simp only [hn,Option.map_some,Option.some.injEq] at hr;subst hr
    simp only [RK.run] at h
    split at h
    ·rename_i p hp
     obtain ⟨h1,h2,h3⟩:=h
     refine kML ?_ h3
     simp [Instr.storeAt,hev,hp,Instr.sureAddr,kMI hn h1 h2]
    ·exact h.elim
 · -- nilCheck
  rename_i x
  simp only [Option.some.injEq] at hr;subst hr
  simp only [RK.run] at h
  split at h
  ·rename_i p hp
   simp only [execOp,hev,hp,Sem.run_pure,Gives];exact h
  ·exact h.elim
 · -- binOp
  rename_i op T x y yT
  have hbinop :∀{d},P.underlying T=some d→(RK.bin op x y).run P σ w K→Gives P ((execOp ρ ⟨dst,.binOp op T x y yT,type,pos,after,guard⟩).run P w) K:=by
   intro d hd h
   simp only [RK.run] at h
   split at h
   ·rename_i k a k' b hx hy
    split at h
    ·rename_i hk
     split at h
     ·rename_i v hv
      refine qJ ?_ h
      simp only [hev,hx,hy,Sem.run_bind,kJB,Result.andThen_ok,bin_run hk hv]
     ·exact h.elim
    ·exact h.elim
   ·rename_i a b hx hy
    split at h
    ·refine qJ ?_ h
     simp only [hev,hx,hy,Sem.run_bind,kDZ,Result.andThen_ok]
     simp [binOp,Op.stringOp]
    ·refine qJ ?_ h
     simp only [hev,hx,hy,Sem.run_bind,kDZ,Result.andThen_ok]
     simp [binOp,Op.stringOp]
    ·exact h.elim
   ·exact h.elim
  split at hr
  ·rename_i hd
   simp only [Option.some.injEq] at hr;subst hr;exact hbinop hd h
  ·rename_i hd
   simp only [Option.some.injEq] at hr;subst hr;exact hbinop hd h
  ·rename_i hd
   have hbool :∀(neg:Bool),op=(if neg then .neq else .eql)→(RK.beq neg x y).run P σ w K→Gives P ((execOp ρ ⟨dst,.binOp op T x y yT,type,pos,after,guard⟩).run P w) K:=by
    intro neg hop h
    subst hop
    simp only [RK.run] at h
    split at h
    ·rename_i a b hx hy
     refine qJ ?_ h
     simp only [hev,hx,hy,Sem.run_bind,kHF,Result.andThen_ok]
     cases neg<;>simp [binOp,eq_bool hd]
    ·exact h.elim
   split at hr
   ·simp only [Option.some.injEq] at hr;subst hr;exact hbool false rfl h
   ·simp only [Option.some.injEq] at hr;subst hr;exact hbool true rfl h
   ·simp at hr
  ·rename_i d _ _ _ hd
   split at hr
   ·rename_i k hk
    simp only [Option.some.injEq] at hr;subst hr
    obtain ⟨v,hv,hK⟩:=kHH (neg:=false) (ρ:=ρ) hd hk (hev y) (hev x) h
    exact qJ hv hK
   ·rename_i k hk
    simp only [Option.some.injEq] at hr;subst hr
    obtain ⟨v,hv,hK⟩:=kHH (neg:=true) (ρ:=ρ) hd hk (hev y) (hev x) h
    exact qJ hv hK
   ·simp at hr
  ·simp at hr
 · -- not
  rename_i T x
  simp only [Option.some.injEq] at hr;subst hr
  simp only [RK.run] at h
  split at h
  ·rename_i b hb
   refine qJ ?_ h
   simp [Op.unary,hev,hb]
  ·exact h.elim
 · -- convert
  rename_i S D x
  split at hr
  ·rename_i k1 k hS hD
   simp only [Option.some.injEq] at hr;subst hr
   simp only [RK.run] at h
   split at h
   ·rename_i k' n hx
    refine qJ ?_ h
    simp [convert,kQ hS,kQ hD,hev,hx,Conv.intToInt]
   ·exact h.elim
  ·rename_i e hS hD
   split at hr
   ·rename_i he
    simp only [Option.some.injEq] at hr;subst hr
    simp only [RK.run] at h
    split at h
    ·rename_i s hx
     have hge:=grownCap_ge w s.size 0 e
     refine qJ ?_ (h e (grownCap w s.size 0 e) (List.replicate (grownCap w s.size 0 e-s.size) (.int .u8 0)) hge (by simp))
     simp [convert,kQ hS,kQ hD,kQ he,hev,hx,Conv.stringToBytes,Question.forced,newRow,markStringish]
     have hfz:=kLJ (P:=P) w.drew (Array.map (fun b=>Value.int IntKind.u8 ↑b.toNat) s.data++Array.replicate (grownCap w s.size 0 e-s.size) (Value.int IntKind.u8 0)) e (grownCap w s.size 0 e)
      (by have:s.data.size=s.size:=rfl
          simp only [Array.size_append,Array.size_map,Array.size_replicate];omega)
     refine (congrArg (fun r=>Result.andThen r _) hfz).trans ?_
     simp only [Result.andThen_ok]
     congr 3
     apply Array.ext'
     simp [u8s]
    ·exact h.elim
   ·simp at hr
  ·rename_i e hS hD
   split at hr
   ·rename_i he
    simp only [Option.some.injEq] at hr;subst hr
    simp only [RK.run] at h
    split at h
    ·rename_i n c hx
     refine qJ ?_ h
     simp [convert,kQ hS,kQ hD,kQ he,hev,hx,Conv.bytesToString]
    ·rename_i a n c hx
     split at h
     ·rename_i bs hb
      cases hc:kV w a 0 n with
      | none=>simp [hc] at hb
      | some vs =>
        simp only [hc,Option.bind_some] at hb
        obtain ⟨ns,rfl,rfl⟩:=kJA (_P:=P) (_w:=w) vs bs hb
        refine qJ ?_ h
        have h2:=xP (P:=P) _ _ _ #[] hc
        have h3:(loadCells a n).run P w=.ok (ns.map (Value.int .u8)).toArray w:=by simpa [loadCells] using h2
        have h4:=run_bytesToString (P:=P) w a n c ns h3
        have h5:ns.foldl (fun r n=>r.push (UInt8.ofNat n.toNat)) ByteArray.empty=⟨(ns.map fun n=>UInt8.ofNat n.toNat).toArray⟩:=by
         have gen :∀(ns:List Int) (b:ByteArray),ns.foldl (fun r n=>r.push (UInt8.ofNat n.toNat)) b=⟨b.data++(ns.map fun n=>UInt8.ofNat n.toNat).toArray⟩:=by
          intro ns;induction ns with
          | nil=>intro b;simp
          | cons n ns ih=>intro b;rw [List.foldl_cons,ih];simp [ByteArray.push]
         rw [gen];simp
        simp [convert,kQ hS,kQ hD,kQ he,hev,hx]
        rw [h4,h5]
     ·exact h.elim
    ·exact h.elim
   ·simp at hr
  ·simp at hr
 · -- makeSlice
  rename_i T l c
  split at hr
  ·rename_i e hu
   split at hr
   ·rename_i b z s hb hz hs
    split at hr
    ·rename_i hzl
     simp only [Option.some.injEq] at hr;subst hr
     simp only [RK.run] at h
     split at h
     ·rename_i kl l' kc c' hl hc
      obtain ⟨h0,h1,h2,h3,h4⟩:=h
      obtain ⟨i,zv,hi,rfl,rfl,hq,hzc⟩:=kJC hs hb hz
      have hb':(i.bytes:Int)*c'≤281474976710656:=by rw [Int.mul_comm];omega
      have:=run_make (P:=P) w T e i zv hu hi hq kl kc l' c' h0 h1 hb' (by omega)
      refine qJ ?_ (h4 e)
      rw [hev,hev,hl,hc,this]
      have hm:=kC8 z.toArray c'.toNat
      simp only [List.size_toArray] at hm
      rw [hzc,←hzl,hm]
     ·exact h.elim
    ·simp at hr
   ·simp at hr
  ·simp at hr
 · -- slice
  rename_i T x lo hi mx
  split at hr
  ·rename_i e hu
   split at hr
   ·simp at hr
   ·rename_i hmh
    cases hs:jL P e with
    | none=>simp [hs] at hr
    | some size =>
      simp only [hs,Option.map_some,Option.some.injEq] at hr;subst hr
      simp only [RK.run] at h
      split at h
      ·rename_i a n cap hx
       split at h
       ·rename_i l hh m hl hhi hm
        obtain ⟨h0,h1,h2,h3,h4⟩:=h
        refine qJ ?_ h4
        have hb :∀(o:Option Operand) (d v:Int),bnd σ o d=some v→(o.map ρ=none∧v=d) ∨∃k,o.map ρ=some (.int k v):=by
         intro o d v hb
         unfold bnd at hb
         cases o with
         | none=>simp at hb;exact .inl ⟨rfl,hb.symm⟩
         | some o =>
           simp only at hb
           split at hb
           ·rename_i k i ho
            simp only [Option.some.injEq] at hb;subst hb
            exact .inr ⟨k,by simp [hev,ho]⟩
           ·simp at hb
        have hH:(Instr.sliceBounds true n cap (lo.map ρ) (hi.map ρ) (mx.map ρ)).run P w=.ok (l.toNat,hh.toNat,m.toNat) w:=by
         refine kD5 (hb _ _ _ hl) ?_ (hb _ _ _ hm) h0 h1 h2 h3
         rcases hb _ _ _ hhi with ⟨e1,e2⟩|e
         ·refine .inl ⟨e1,e2,?_⟩
          cases hi with
          | some o=>simp at e1
          | none=>cases mx with
            | none=>rfl
            | some o=>simp at hmh
         ·exact .inr e
        simp [Instr.sliceAt,kQ hu,Instr.slice,hev,hx,hH,jV hs]
       ·exact h.elim
      ·exact h.elim
  ·rename_i n e hu
   split at hr
   ·split at hr
    ·simp at hr
    ·cases hs:jL P e with
     | none=>simp [hs] at hr
     | some size =>
       simp only [hs,Option.map_some,Option.some.injEq] at hr;subst hr
       simp only [RK.run] at h
       split at h
       ·rename_i p hx
        refine qJ ?_ h
        have hH:(Instr.sliceBounds false n n none none none).run P w=.ok (0,n,n) w:=by
         simp [Instr.sliceBounds]
        have ha:p.add (0*size)=p:=by simp [Addr.add]
        simp [Instr.sliceAt,kQ hu,Instr.sureAddr,hev,hx,hH,jV hs]
        simp [Addr.add]
       ·exact h.elim
   ·simp at hr
  ·simp at hr
 · -- index
  rename_i T x ix
  split at hr
  ·rename_i hu
   simp only [Option.some.injEq] at hr;subst hr
   simp only [RK.run] at h
   split at h
   ·rename_i s k i hx hi
    split at h
    ·rename_i b hb
     refine qJ ?_ h
     split at hb
     ·rename_i h0
      have hb':s[i.toNat]?=some b:=by
       rw [←hb];simp only [Array.getElem?_toList]
       simp only [getElem?_def]
       rfl
      simp [Instr.index,hev,hx,hi,asIntOf,kQ hu,h0,hb']
     ·simp at hb
    ·exact h.elim
   ·exact h.elim
  ·simp at hr
 · -- makeFunc
  rename_i fn a b
  simp only [Option.some.injEq] at hr;subst hr
  simp only [RK.run] at h
  refine qJ ?_ h
  have e :∀xs:Array Operand,xs.map ρ=(xs.toList.map (ev σ)).toArray:=by
   intro xs;apply Array.ext';rw [Array.toList_map];exact List.map_congr_left fun x _=>hev x
  simp [Instr.makeFunc,e]
 · -- makeInterface
  rename_i T x
  split at hr
  ·simp at hr
  ·rename_i d hd hu
   simp only [Option.some.injEq] at hr;subst hr
   simp only [RK.run] at h
   refine qJ ?_ h
   have:(Instr.makeInterface T (ev σ x)).run P w=.ok (.iface T (ev σ x)) w:=by
    unfold Instr.makeInterface
    simp only [Sem.run_bind,kQ hu,Result.andThen_ok]
    cases d<;>first|rfl|exact absurd rfl (hd _)
   rw [hev];exact this
  ·simp at hr
 · -- fieldAddr
  rename_i S x f
  split at hr
  ·rename_i fields hu
   split at hr
   ·rename_i fd hf
    split at hr
    ·simp at hr
    ·rename_i m hm hs
     simp only [Option.some.injEq] at hr;subst hr
     simp only [RK.run] at h
     split at h
     ·rename_i p hp
      refine qJ ?_ h
      have hm0:m≠0:=fun e=>hm e
      simp [Instr.fieldAt,kQ hu,hf,hev,hp,Instr.sureAddr,fieldPlace,jV hs,hm0]
     ·exact h.elim
    ·simp at hr
   ·simp at hr
  ·simp at hr
 · -- field
  rename_i S x f
  split at hr
  ·rename_i fields hu
   split at hr
   ·rename_i fd hf
    split at hr
    ·rename_i d hd
     split at hr
     ·rename_i ha
      cases hs:jL P fd.type with
      | none=>simp [hs] at hr
      | some n =>
        simp only [hs,Option.map_some,Option.some.injEq] at hr;subst hr
        simp only [RK.run] at h
        split at h
        ·rename_i cs hc
         refine qJ ?_ h
         have h1:(isAgg fd.type).run P w=.ok true w:=by
          simp only [isAgg,Sem.run_bind,kQ hd,Result.andThen_ok]
          cases d<;>first|rfl|(simp [yS] at ha)
         have h2:((cs.toList.drop fd.offset).take n).toArray=cs.extract fd.offset (fd.offset+n):=by
          apply Array.ext';simp [List.extract]
         rw [h2]
         simp [Instr.field,kQ hu,hf,hev,hc,asAgg,part,h1,jV hs]
        ·exact h.elim
     ·rename_i ha
      simp only [Option.some.injEq] at hr;subst hr
      simp only [RK.run] at h
      split at h
      ·rename_i cs hc
       split at h
       ·rename_i v hv
        refine qJ ?_ h
        have h1:(isAgg fd.type).run P w=.ok false w:=by
         simp only [isAgg,Sem.run_bind,kQ hd,Result.andThen_ok]
         cases d<;>first|rfl|(simp [yS] at ha)
        have h2:cs[fd.offset]?=some v:=by simpa using hv
        simp [Instr.field,kQ hu,hf,hev,hc,asAgg,part,h1,h2]
       ·exact h.elim
      ·exact h.elim
    ·simp at hr
   ·simp at hr
  ·simp at hr
 · -- indexAddr
  rename_i T x ix
  split at hr
  ·rename_i e hu
   cases hs:jL P e with
   | none=>simp [hs] at hr
   | some size =>
     simp only [hs,Option.map_some,Option.some.injEq] at hr;subst hr
     simp only [RK.run] at h
     split at h
     ·rename_i a n c k i hx hi
      obtain ⟨h0,h1,h2⟩:=h
      refine qJ ?_ h2
      have:0≤i∧i<(n:Int):=⟨h0,h1⟩
      simp [Instr.indexAt,hev,hx,hi,asIntOf,kQ hu,jV hs,this]
     ·exact h.elim
  ·simp at hr
 · -- extract
  rename_i x i
  simp only [Option.some.injEq] at hr;subst hr
  simp only [RK.run] at h
  split at h
  ·rename_i vs hx
   split at h
   ·rename_i v hv
    refine qJ ?_ h
    have hv':vs[i]?=some v:=by simpa using hv
    simp [Instr.extract,hev,hx,hv']
   ·exact h.elim
  ·exact h.elim
 · -- makeMap
  simp only [Option.some.injEq] at hr;subst hr
  refine qJ (v:=.map (some w.heap.size)) ?_ h
  simp [Instr.makeMap,newObj]
  rfl
 · -- mapUpdate
  rename_i T m kk x
  split at hr
  ·rename_i kt e hT
   split at hr
   ·rename_i kd hu
    simp only [Option.some.injEq] at hr;subst hr
    simp only [RK.run] at h
    split at h
    ·rename_i r k n hm hk
     split at h
     ·rename_i es clock hes
      refine kML ?_ h.2
      simp only [hev,hm,hk]
      exact kF5 hT hu hes h.1
     ·exact h.elim
    ·exact h.elim
   ·simp at hr
  ·simp at hr
 · -- lookup
  rename_i T m kk
  split at hr
  ·rename_i kt e hT
   split at hr
   ·rename_i kd hu
    cases hz:kF3 P e with
    | none=>simp [hz] at hr
    | some z =>
      simp only [hz,Option.map_some,Option.some.injEq] at hr;subst hr
      simp only [RK.run] at h
      split at h
      ·rename_i r k n hm hk
       split at h
       ·rename_i es clock hes
        refine qJ ?_ h.2
        simp only [hev,hm,hk]
        exact kLH hT hu hz hes h.1
       ·exact h.elim
      ·exact h.elim
   ·simp at hr
  ·simp at hr
 · -- range
  rename_i T x
  split at hr
  ·rename_i kt e hT
   simp only [Option.some.injEq] at hr;subst hr
   simp only [RK.run] at h
   split at h
   ·rename_i r hm
    split at h
    ·rename_i es clock hes
     refine qJ ?_ h
     simp only [hev,hm]
     exact run_range_map w T kt e r es clock hT hes
    ·exact h.elim
   ·exact h.elim
  ·simp at hr
 · -- next
  rename_i it
  simp only [Option.some.injEq] at hr;subst hr
  simp only [RK.run] at h
  split at h
  ·rename_i r sp hm
   split at h
   ·rename_i m since seen c0 hi
    split at h
    ·rename_i es clock hes
     obtain ⟨h1,h2,h3,h4⟩:=h
     rcases kOT (P:=P) (ty:=type) hi hes h1 h2 sp with ⟨k1,k2⟩|⟨e,he,w1,hw1,k2⟩
     ·refine qJ ?_ (h3 k1)
      simp only [hev,hm];exact k2
     ·refine qJ ?_ (h4 e he w1 hw1)
      simp only [hev,hm];exact k2
    ·exact h.elim
   ·exact h.elim
  ·exact h.elim
 · -- entry
  rename_i it
  simp only [Option.some.injEq] at hr;subst hr
  simp only [RK.run] at h
  split at h
  ·rename_i r sp hm
   split at h
   ·rename_i m since seen stepped hi
    split at h
    ·rename_i es clock hes
     obtain ⟨rfl,e,h2,h3,h4,h5⟩:=h
     refine qJ ?_ h5
     simp only [hev,hm]
     exact kMK hi hes h2 h3 h4 sp
    ·exact h.elim
   ·exact h.elim
  ·exact h.elim
 · -- call
  rename_i c
  have hbuiltin :∀{b:Builtin} {vs:List Operand},c.callee=.builtin b→c.args.toList=vs →
    (execOp ρ ⟨dst,.call c,type,pos,after,guard⟩).run P w=(builtin b c.argTypes type (c.args.map fun|.const _=>true|_=>false) (vs.map (ev σ)).toArray).run P w:=by
   intro b vs hcal hargs
   have hargs':c.args.map ρ=(vs.map (ev σ)).toArray:=by
    apply Array.ext'
    rw [Array.toList_map,hargs]
    exact List.map_congr_left fun x _=>hev x
   simp only [execOp,resolve,hcal,hargs',Sem.run_bind,Sem.run_pure,Result.andThen_ok,invoke]
   rfl
  split at hr
  ·rename_i f hcal
   split at hr
   ·rename_i hb
    simp only [Option.some.injEq] at hr;subst hr
    simp only [RK.run] at h
    unfold wS at hb
    split at hb
    ·rename_i fn hfn
     simp only [Bool.and_eq_true,Bool.not_eq_true'] at hb
     have hargs':c.args.map ρ=(c.args.toList.map (ev σ)).toArray:=by
      apply Array.ext'
      rw [Array.toList_map]
      exact List.map_congr_left fun x _=>hev x
     have hbn:fn.body.isNone=false:=by cases hfb:fn.body<;>simp_all
     have hρ:ρ (.func f)=.func (.func f) #[] #[]:=hev _
     have:(execOp ρ ⟨dst,.call c,type,pos,after,guard⟩).run P w=.ok (.enter f (c.args.toList.map (ev σ)).toArray) w:=by
      simp only [execOp,resolve,hcal,Deferred.ofValue,hρ,hargs',Sem.run_bind,Sem.run_pure,Result.andThen_ok,invoke,callFunc,run_program,hfn,hb.2,hbn]
      simp
     rw [this];exact h
    ·simp at hb
   ·simp at hr
  ·rename_i xo hnf hcal
   simp only [Option.some.injEq] at hr;subst hr
   simp only [RK.run] at h
   split at h
   ·rename_i f first captured hx
    obtain ⟨hb,h⟩:=h
    unfold wS at hb
    split at hb
    ·rename_i fn hfn
     simp only [Bool.and_eq_true,Bool.not_eq_true'] at hb
     have hargs':c.args.map ρ=(c.args.toList.map (ev σ)).toArray:=by
      apply Array.ext'
      rw [Array.toList_map]
      exact List.map_congr_left fun x _=>hev x
     have hbn:fn.body.isNone=false:=by cases hfb:fn.body<;>simp_all
     have e2:(first.toList++c.args.toList.map (ev σ)++captured.toList).toArray=first++(c.args.toList.map (ev σ)).toArray++captured:=by
      apply Array.ext';simp
     have:(execOp ρ ⟨dst,.call c,type,pos,after,guard⟩).run P w=.ok (.enter f (first.toList++c.args.toList.map (ev σ)++captured.toList).toArray) w:=by
      simp only [execOp,resolve,hcal,Deferred.ofValue,hev,hx,hargs',Sem.run_bind,Sem.run_pure,Result.andThen_ok,invoke,callFunc,run_program,hfn,hb.2,hbn,e2]
      simp
     rw [this];exact h
    ·simp at hb
   ·exact h.elim
  ·rename_i xo name hcal
   simp only [Option.some.injEq] at hr;subst hr
   simp only [RK.run] at h
   split at h
   ·rename_i t v hx
    obtain ⟨f,hmf,hb,h⟩:=h
    unfold wS at hb
    split at hb
    ·rename_i fn hfn
     simp only [Bool.and_eq_true,Bool.not_eq_true'] at hb
     have hargs':c.args.map ρ=(c.args.toList.map (ev σ)).toArray:=by
      apply Array.ext'
      rw [Array.toList_map]
      exact List.map_congr_left fun x _=>hev x
     have hbn:fn.body.isNone=false:=by cases hfb:fn.body<;>simp_all
     have hmeth:=kLK (v:=v) (w:=w) hmf
     have:(execOp ρ ⟨dst,.call c,type,pos,after,guard⟩).run P w=.ok (.enter f (v::c.args.toList.map (ev σ)).toArray) w:=by
      simp only [execOp,resolve,hcal,hev,hx,hargs',Sem.run_bind,Sem.run_pure,Result.andThen_ok,invoke,callMethod,run_program,List.append_toArray,List.cons_append,List.nil_append,List.getElem?_toArray,List.getElem?_cons_zero,List.extract_toArray]
      simp only [hmeth,Result.andThen_ok,callFunc,Sem.run_bind,run_program,hfn,hb.2,hbn]
      simp [List.take_of_length_le]
     rw [this];exact h
    ·simp at hb
   ·exact h.elim
  ·rename_i x y hcal hargs
   simp only [Option.some.injEq] at hr;subst hr
   simp only [RK.run] at h
   split at h
   ·rename_i k a k' b hx hy
    rw [hbuiltin hcal hargs]
    refine qJ ?_ h
    simp [Builtin.max_,Builtin.max2,hx,hy]
   ·exact h.elim
  ·rename_i x y hcal hargs
   simp only [Option.some.injEq] at hr;subst hr
   simp only [RK.run] at h
   split at h
   ·rename_i k a k' b hx hy
    rw [hbuiltin hcal hargs]
    refine qJ ?_ h
    simp [Builtin.min_,Builtin.min2,hx,hy]
   ·exact h.elim
  ·rename_i x y hcal hargs
   have hu :∀{d},(c.argTypes[0]?).bind P.underlying=some d →∃T,c.argTypes[0]?=some T∧P.underlying T=some d:=by
    intro d hd
    cases hc:c.argTypes[0]? with
    | none=>simp [hc] at hd
    | some T=>exact ⟨T,rfl,by simpa [hc] using hd⟩
   split at hr
   ·rename_i e he
    cases hs:jL P e with
    | none=>simp [hs] at hr
    | some size =>
      simp only [hs,Option.map_some,Option.some.injEq] at hr;subst hr
      obtain ⟨T,hT,hu⟩:=hu he
      simp only [RK.run] at h
      split at h
      ·rename_i base dn cp hx
       split at h
       ·rename_i n src hsrc
        rw [hbuiltin hcal hargs]
        obtain ⟨hl,-⟩:=kC9 (P:=P) hsrc
        have hf:=kF6 (P:=P) hsrc (Nat.min_le_left n dn)
        split at h
        ·rename_i a
         obtain ⟨hok,hK⟩:=h
         have hst:(storeCells a (src.take (Nat.min n dn*size))).run P w=.ok () (putCells w a 0 (src.take (Nat.min n dn*size))):=by
          obtain ⟨h1,h2,h3⟩:=hok
          obtain ⟨b,o,s⟩:=a
          simp only at h1 h2;subst h1
          rcases h2 with h2|⟨cs,hb,hl⟩
          ·rw [h2];simp [storeCells,putCells]
          ·exact vN _ _ cs o 0 hb (by simpa using hl) h3
         refine qJ ?_ hK
         simp only [List.map_cons,List.map_nil,hx]
         simp [Builtin.copy_,hT,kQ hu,hl,hf,hst,jV hs,goInt]
        ·refine qJ ?_ h
         simp only [List.map_cons,List.map_nil,hx]
         simp [Builtin.copy_,hT,kQ hu,hl,hf,jV hs,goInt]
       ·exact h.elim
      ·exact h.elim
   ·simp at hr
  ·rename_i x hcal hargs
   have hu :∀{d},(c.argTypes[0]?).bind P.underlying=some d →∃T,c.argTypes[0]?=some T∧P.underlying T=some d:=by
    intro d hd
    cases hc:c.argTypes[0]? with
    | none=>simp [hc] at hd
    | some T=>exact ⟨T,rfl,by simpa [hc] using hd⟩
   split at hr
   ·rename_i e he
    simp only [Option.some.injEq] at hr;subst hr
    obtain ⟨T,hT,hu⟩:=hu he
    simp only [RK.run] at h
    split at h
    ·rename_i a n cp hx
     rw [hbuiltin hcal hargs]
     refine qJ ?_ h
     simp [Builtin.len_,hT,hx,kQ hu,goInt]
    ·exact h.elim
   ·rename_i he
    simp only [Option.some.injEq] at hr;subst hr
    obtain ⟨T,hT,hu⟩:=hu he
    simp only [RK.run] at h
    split at h
    ·rename_i str hx
     rw [hbuiltin hcal hargs]
     refine qJ ?_ h
     simp [Builtin.len_,hT,hx,kQ hu,goInt]
    ·exact h.elim
   ·rename_i kt e he
    simp only [Option.some.injEq] at hr;subst hr
    obtain ⟨T,hT,hu⟩:=hu he
    simp only [RK.run] at h
    split at h
    ·rename_i hx
     rw [hbuiltin hcal hargs]
     refine qJ ?_ h
     simp [Builtin.len_,hT,hx,kQ hu,goInt]
    ·rename_i r hx
     split at h
     ·rename_i es clock hes
      rw [hbuiltin hcal hargs]
      refine qJ ?_ h
      simp [Builtin.len_,hT,hx,kQ hu,goInt,MapKept.run_getObj_map hes]
     ·exact h.elim
    ·exact h.elim
   ·simp at hr
  ·rename_i sl x hcal hargs
   split at hr
   ·rename_i sT xT hsT hxT
    split at hr
    ·rename_i e xd hsu hxu
     split at hr
     ·rename_i size bytes z hsz hby hz
      split at hr
      ·rename_i hzl
       have hat :∀a,Builtin.append_ c.argTypes type a=Builtin.append_ #[sT,xT] type a:=by
        intro a;simp [Builtin.append_,hsT,hxT]
       split at hr
       ·rename_i kk
        simp only [Option.some.injEq] at hr;subst hr
        simp only [RK.run] at h
        split at h
        ·rename_i base sLen sCap k n hs hx
         obtain ⟨h0,h1,h2,h3⟩:=h
         have hn:n=(n.toNat:Int):=by omega
         obtain ⟨v,w',hrun,hK⟩:=kJD (k:=k) (by rw [hzl];exact hsz) hby hz hsu hxu (n:=n.toNat)
          (by have:((n.toNat*bytes:Nat):Int)≤70368744177664:=by rw [Int.natCast_mul,←hn];exact h1
              omega) (by omega) type h3
         rw [hbuiltin hcal hargs]
         refine qJ ?_ hK
         rw [hat];simp only [List.map_cons,List.map_nil,hs,hx]
         rw [hn];exact hrun
        ·exact h.elim
       ·rename_i hni
        simp only [Option.some.injEq] at hr;subst hr
        simp only [RK.run] at h
        split at h
        ·rename_i base sLen sCap hs
         split at h
         ·rename_i n src hsrc
          obtain ⟨v,w',hrun,hK⟩:=kLG hsz hby hz hzl hsu hxu (fun k hk=>hni k hk) hsrc type h
          rw [hbuiltin hcal hargs]
          refine qJ ?_ hK
          rw [hat];simp only [List.map_cons,List.map_nil,hs]
          exact hrun
         ·exact h.elim
        ·exact h.elim
      ·simp at hr
     ·simp at hr
    ·simp at hr
   ·simp at hr
  ·simp at hr
 ·simp at hr
end
structure RI where
 dst:Option Nat
 k:RK
 guard:Option (Nat×Bool)
 deriving Inhabited
def gOk (g:Option (Nat×Bool)) (σ:Sl):Bool :=
 match g with
 | none=>true
 | some (d,b)=>match σ d with
 | .bool c=>c==b
 | _=>false
def RI.wp (P:Program) (i:RI) (σ:Sl) (w:World) (Q:Sl→World→Prop):Prop :=
 if gOk i.guard σ=true then i.k.run P σ w fun v w'=>Q (updo σ i.dst v) w' else Q (updo σ i.dst undef) w
def wpR (P:Program):List RI→Sl→World→(Sl→World→Prop)→Prop
 | [],σ,w,Q=>Q σ w
 | i::r,σ,w,Q=>i.wp P σ w fun σ' w'=>wpR P r σ' w' Q
def RK.opds:RK→List Operand
 | .mv x|.box x|.ld x|.ldn x _|.nilc x|.isnil _ _ x|.lnot x|.conv _ x|.s2b x|.b2s x|.fad x _|.fld x _ _|.ext x _|.len x|.slen x|.mkif _ x|.slicea x _|.mlen x|.mrng x|.mnext x|.mentry x=>[x]
 | .pick c a b=>[c,a,b]
 | .alloc _|.mkmap=>[]
 | .mapup x y z=>[x,y,z]
 | .build _ ps|.bslice _ _ ps=>ps.map (·.2.2)
 | .st a _ x=>[a,x]
 | .bin _ x y|.beq _ x y|.iad x y _|.append x y _ _|.appendz x y _ _|.mkslice x y _ _|.mm _ x y|.copy x y _|.idx x y|.mlook x y _=>[x,y]
 | .slice x lo hi mx _=>x::(lo.toList++(hi.toList++mx.toList))
 | .call _ args=>args
 | .callv x args=>x::args
 | .invk x _ args=>x::args
 | .mkfunc _ a b=>a++b
def Operand.tmps:Operand→List Nat
 | .tmp t=>[t]
 | _=>[]
theorem kOW {σ σ':Sl} {x:Operand} (h :∀t∈Operand.tmps x,σ t=σ' t):ev σ x=ev σ' x:=by
 cases x<;>simp [ev,Operand.tmps] at h ⊢;exact h
theorem vZ {σ σ':Sl} {o:Option Operand} {d:Int} (h :∀x,o=some x→ev σ x=ev σ' x):bnd σ' o d=bnd σ o d:=by
 unfold bnd
 cases o with
 | none=>rfl
 | some x=>simp only;rw [h x rfl]
theorem kMN {P:Program} {k:RK} {σ σ':Sl} {w:World} {K:Value→World→Prop} (h :∀x∈k.opds,ev σ x=ev σ' x)
  (hr:k.run P σ w K):k.run P σ' w K:=by
 have hp :∀{ps:List (Nat×Nat×Operand)},(∀x∈ps.map (·.2.2),ev σ x=ev σ' x) →
   (ps.map fun p=>(p.1,p.2.1,ev σ p.2.2))=(ps.map fun p=>(p.1,p.2.1,ev σ' p.2.2)):=by
  intro ps hps
  apply List.map_congr_left
  intro p hp
  rw [hps p.2.2 (List.mem_map.2 ⟨p,hp,rfl⟩)]
 cases k with
 | build z ps=>simp only [RK.run,RK.opds] at *;rw [←hp h];exact hr
 | bslice n z ps=>simp only [RK.run,RK.opds] at *;rw [←hp h];exact hr
 | call f args =>
   simp only [RK.run,RK.opds] at *
   rw [←List.map_congr_left h];exact hr
 | slice x lo hi mx size =>
   simp only [RK.opds,List.mem_cons,List.mem_append] at h
   simp only [RK.run] at hr ⊢
   rw [←h x (.inl rfl)]
   have e1:bnd σ' lo 0=bnd σ lo 0:=vZ fun o ho=>h o (.inr (.inl (by simp [ho])))
   have e2 :∀n:Nat,bnd σ' hi n=bnd σ hi n:=fun n=>vZ fun o ho=>h o (.inr (.inr (.inl (by simp [ho]))))
   have e3 :∀n:Nat,bnd σ' mx n=bnd σ mx n:=fun n=>vZ fun o ho=>h o (.inr (.inr (.inr (by simp [ho]))))
   simp only [e1,e2,e3]
   exact hr
 | callv x args =>
   simp only [RK.run,RK.opds,List.mem_cons] at *
   rw [←h x (.inl rfl),←List.map_congr_left fun y hy=>h y (.inr hy)];exact hr
 | invk x name args =>
   simp only [RK.run,RK.opds,List.mem_cons] at *
   rw [←h x (.inl rfl),←List.map_congr_left fun y hy=>h y (.inr hy)];exact hr
 | mkfunc fn a b =>
   simp only [RK.run,RK.opds,List.mem_append] at *
   rw [←List.map_congr_left fun y hy=>h y (.inl hy),←List.map_congr_left fun y hy=>h y (.inr hy)];exact hr
 | alloc z=>exact hr
 | mkmap=>exact hr
 | mapup m k v =>
   simp only [RK.opds,List.mem_cons,List.not_mem_nil,or_false,forall_eq_or_imp,forall_eq] at h
   obtain ⟨h1,h2,h3⟩:=h
   simp only [RK.run] at hr ⊢
   rw [←h1,←h2,←h3];exact hr
 | box x =>
   simp only [RK.opds,List.mem_cons,List.not_mem_nil,or_false,forall_eq] at h
   simp only [RK.run] at hr ⊢
   rw [←h];exact hr
 | _ =>
   simp only [RK.opds,List.mem_cons,List.not_mem_nil,or_false,forall_eq_or_imp,forall_eq] at h
   simp only [RK.run] at hr ⊢
   first|(simp only [h] at hr;exact hr)|(rcases h with ⟨h1,h2⟩;rw [←h1,←h2];exact hr)|exact hr
theorem kBG {size bytes:Nat} {base:Option Addr} {sLen sCap n:Nat} {src:List Value} {w:World} {K K':Value→World→Prop}
  (h:qV size bytes base sLen sCap n src w K) (hk :∀v w,K v w→K' v w):qV size bytes base sLen sCap n src w K':=by
 unfold qV at *
 split at h
 ·rename_i hc;rw [if_pos hc]
  cases base with
  | none=>exact hk _ _ h
  | some a=>exact ⟨h.1,hk _ _ h.2⟩
 ·rename_i hc;rw [if_neg hc]
  refine ⟨h.1,h.2.1,?_⟩
  have h:=h.2.2
  split at h
  ·exact fun T cap rest h1 h2=>hk _ _ (h T cap rest h1 h2)
  ·exact h.elim
theorem vO {P:Program} {k:RK} {σ:Sl} {w:World} {K K':Value→World→Prop} (h:k.run P σ w K) (hk :∀v w,K v w→K' v w):k.run P σ w K':=by
 cases k with
 | mv x=>exact hk _ _ h
 | alloc z=>exact fun T=>hk _ _ (h T)
 | mkmap=>exact hk _ _ h
 | mapup m k v =>
   simp only [RK.run] at h ⊢
   split at h
   ·split at h
    ·exact ⟨h.1,hk _ _ h.2⟩
    ·exact h.elim
   ·exact h.elim
 | mlen m =>
   simp only [RK.run] at h ⊢
   split at h
   ·exact hk _ _ h
   ·split at h
    ·exact hk _ _ h
    ·exact h.elim
   ·exact h.elim
 | mlook m k z =>
   simp only [RK.run] at h ⊢
   split at h
   ·split at h
    ·exact ⟨h.1,hk _ _ h.2⟩
    ·exact h.elim
   ·exact h.elim
 | mrng m =>
   simp only [RK.run] at h ⊢
   split at h
   ·split at h
    ·exact hk _ _ h
    ·exact h.elim
   ·exact h.elim
 | mnext it =>
   simp only [RK.run] at h ⊢
   split at h
   ·split at h
    ·split at h
     ·exact ⟨h.1,h.2.1,fun e=>hk _ _ (h.2.2.1 e),fun e he w1 hw=>hk _ _ (h.2.2.2 e he w1 hw)⟩
     ·exact h.elim
    ·exact h.elim
   ·exact h.elim
 | mentry it =>
   simp only [RK.run] at h ⊢
   split at h
   ·split at h
    ·split at h
     ·obtain ⟨h1,e,h2,h3,h4,h5⟩:=h
      exact ⟨h1,e,h2,h3,h4,hk _ _ h5⟩
     ·exact h.elim
    ·exact h.elim
   ·exact h.elim
 | box x=>exact fun T=>hk _ _ (h T)
 | call f args=>exact Calls.mono h fun e w' ⟨v,hv,hK⟩=>⟨v,hv,hk _ _ hK⟩
 | append s x size bytes =>
   simp only [RK.run] at h ⊢
   split at h
   ·split at h
    ·exact kBG h hk
    ·exact h.elim
   ·exact h.elim
 | appendz s x bytes z =>
   simp only [RK.run] at h ⊢
   split at h
   ·exact ⟨h.1,h.2.1,h.2.2.1,kBG h.2.2.2 hk⟩
   ·exact h.elim
 | mkslice l c bytes z =>
   simp only [RK.run] at h ⊢
   split at h
   ·exact ⟨h.1,h.2.1,h.2.2.1,h.2.2.2.1,fun T=>hk _ _ (h.2.2.2.2 T)⟩
   ·exact h.elim
 | s2b x =>
   simp only [RK.run] at h ⊢
   split at h
   ·exact fun T cap rest h1 h2=>hk _ _ (h T cap rest h1 h2)
   ·exact h.elim
 | bslice n z ps =>
   simp only [RK.run] at h ⊢
   split at h
   ·exact fun T=>hk _ _ (h T)
   ·exact h.elim
 | st a n x =>
   simp only [RK.run] at h ⊢
   split at h
   ·exact ⟨h.1,h.2.1,hk _ _ h.2.2⟩
   ·exact h.elim
 | iad x ix size =>
   simp only [RK.run] at h ⊢
   split at h
   ·exact ⟨h.1,h.2.1,hk _ _ h.2.2⟩
   ·exact h.elim
 | slice x lo hi mx size =>
   simp only [RK.run] at h ⊢
   split at h
   ·split at h
    ·exact ⟨h.1,h.2.1,h.2.2.1,h.2.2.2.1,hk _ _ h.2.2.2.2⟩
    ·exact h.elim
   ·exact h.elim
 | callv x args =>
   simp only [RK.run] at h ⊢
   split at h
   ·exact ⟨h.1,Calls.mono h.2 fun e w' ⟨v,hv,hK⟩=>⟨v,hv,hk _ _ hK⟩⟩
   ·exact h.elim
 | invk x name args =>
   simp only [RK.run] at h ⊢
   split at h
   ·obtain ⟨f,h1,h2,h3⟩:=h
    exact ⟨f,h1,h2,Calls.mono h3 fun e w' ⟨v,hv,hK⟩=>⟨v,hv,hk _ _ hK⟩⟩
   ·exact h.elim
 | copy x y size =>
   simp only [RK.run] at h ⊢
   split at h
   ·split at h
    ·split at h
     ·exact ⟨h.1,hk _ _ h.2⟩
     ·exact hk _ _ h
    ·exact h.elim
   ·exact h.elim
 | idx x ix =>
   simp only [RK.run] at h ⊢
   split at h
   ·split at h
    ·exact hk _ _ h
    ·exact h.elim
   ·exact h.elim
 | mkfunc fn a b=>exact hk _ _ h
 | mkif T x=>exact hk _ _ h
 | bin op x y =>
   simp only [RK.run] at h ⊢
   split at h
   ·split at h
    ·rename_i hc
     rw [if_pos hc]
     split at h
     ·exact hk _ _ h
     ·exact h.elim
    ·exact h.elim
   ·split at h
    ·exact hk _ _ h
    ·exact hk _ _ h
    ·exact h.elim
   ·exact h.elim
 | ld a =>
   simp only [RK.run] at h ⊢
   split at h
   ·split at h
    ·exact hk _ _ h
    ·exact h.elim
   ·exact h.elim
 | ldn a n =>
   simp only [RK.run] at h ⊢
   split at h
   ·split at h
    ·exact hk _ _ h
    ·exact h.elim
   ·exact h.elim
 | ext x i =>
   simp only [RK.run] at h ⊢
   split at h
   ·split at h
    ·exact hk _ _ h
    ·exact h.elim
   ·exact h.elim
 | b2s x =>
   simp only [RK.run] at h ⊢
   split at h
   ·exact hk _ _ h
   ·split at h
    ·exact hk _ _ h
    ·exact h.elim
   ·exact h.elim
 | fld x off n =>
   simp only [RK.run] at h ⊢
   split at h
   ·cases n with
    | none =>
      simp only at h ⊢
      split at h
      ·exact hk _ _ h
      ·exact h.elim
    | some n=>exact hk _ _ h
   ·exact h.elim
 | build z ps =>
   simp only [RK.run] at h ⊢
   split at h
   ·exact hk _ _ h
   ·exact h.elim
 | _ =>
   simp only [RK.run] at h ⊢
   split at h
   all_goals first|exact h.elim|exact hk _ _ h
theorem uX {size bytes:Nat} {base:Option Addr} {sLen sCap n:Nat} {src:List Value} {w:World} {K:Value→World→Prop}
  (h:qV size bytes base sLen sCap n src w K) :∃v w',K v w':=by
 unfold qV at h
 split at h
 ·cases base with
  | none=>exact ⟨_,_,h⟩
  | some a=>exact ⟨_,_,h.2⟩
 ·have h:=h.2.2
  split at h
  ·exact ⟨_,_,h 0 (sLen+n) [] (Nat.le_refl _) (by simp)⟩
  ·exact h.elim
theorem kLL {P:Program} {k:RK} {σ:Sl} {w:World} {K:Value→World→Prop} (h:k.run P σ w K) :∃v w',K v w':=by
 cases k with
 | mv x=>exact ⟨_,_,h⟩
 | alloc z=>exact ⟨_,_,h 0⟩
 | box x=>exact ⟨_,_,h 0⟩
 | call f args=>obtain ⟨e,w',fr,⟨v,hv,hK⟩,-⟩:=h [];exact ⟨v,w',hK⟩
 | mkmap=>exact ⟨_,_,h⟩
 | mapup m k v =>
   simp only [RK.run] at h
   split at h
   ·split at h
    ·exact ⟨_,_,h.2⟩
    ·exact h.elim
   ·exact h.elim
 | mlook m k z =>
   simp only [RK.run] at h
   split at h
   ·split at h
    ·exact ⟨_,_,h.2⟩
    ·exact h.elim
   ·exact h.elim
 | mnext it =>
   simp only [RK.run] at h
   split at h
   ·split at h
    ·split at h
     ·obtain ⟨-,-,h3,h4⟩:=h
      rename_i seen _ _ _ es _ _
      by_cases h0:(leftOf es seen).size=0
      ·exact ⟨_,_,h3 h0⟩
      ·cases hl:(leftOf es seen).toList with
       | nil=>exact absurd (by simpa using congrArg List.length hl) h0
       | cons e l=>exact ⟨_,_,h4 e (by rw [hl];simp) w (.inl rfl)⟩
     ·exact h.elim
    ·exact h.elim
   ·exact h.elim
 | mentry it =>
   simp only [RK.run] at h
   split at h
   ·split at h
    ·split at h
     ·obtain ⟨h1,e,h2,h3,h4,h5⟩:=h
      exact ⟨_,_,h5⟩
     ·exact h.elim
    ·exact h.elim
   ·exact h.elim
 | mkfunc fn a b=>exact ⟨_,_,h⟩
 | mkif T x=>exact ⟨_,_,h⟩
 | append s x size bytes =>
   simp only [RK.run] at h
   split at h
   ·split at h
    ·exact uX h
    ·exact h.elim
   ·exact h.elim
 | appendz s x bytes z =>
   simp only [RK.run] at h
   split at h
   ·exact uX h.2.2.2
   ·exact h.elim
 | mkslice l c bytes z =>
   simp only [RK.run] at h
   split at h
   ·exact ⟨_,_,h.2.2.2.2 0⟩
   ·exact h.elim
 | s2b x =>
   simp only [RK.run] at h
   split at h
   ·rename_i s hs;exact ⟨_,_,h 0 s.size [] (Nat.le_refl _) (by simp)⟩
   ·exact h.elim
 | bslice n z ps =>
   simp only [RK.run] at h
   split at h
   ·exact ⟨_,_,h 0⟩
   ·exact h.elim
 | st a n x =>
   simp only [RK.run] at h
   split at h
   ·exact ⟨_,_,h.2.2⟩
   ·exact h.elim
 | iad x ix size =>
   simp only [RK.run] at h
   split at h
   ·exact ⟨_,_,h.2.2⟩
   ·exact h.elim
 | slice x lo hi mx size =>
   simp only [RK.run] at h
   split at h
   ·split at h
    ·exact ⟨_,_,h.2.2.2.2⟩
    ·exact h.elim
   ·exact h.elim
 | callv x args =>
   simp only [RK.run] at h
   split at h
   ·obtain ⟨e,w',fr,⟨v,hv,hK⟩,-⟩:=h.2 [];exact ⟨v,w',hK⟩
   ·exact h.elim
 | invk x name args =>
   simp only [RK.run] at h
   split at h
   ·obtain ⟨f,h1,h2,h3⟩:=h
    obtain ⟨e,w',fr,⟨v,hv,hK⟩,-⟩:=h3 [];exact ⟨v,w',hK⟩
   ·exact h.elim
 | copy x y size =>
   simp only [RK.run] at h
   split at h
   ·split at h
    ·split at h
     ·exact ⟨_,_,h.2⟩
     ·exact ⟨_,_,h⟩
    ·exact h.elim
   ·exact h.elim
 | fld x off n =>
   simp only [RK.run] at h
   split at h
   ·cases n with
    | none=>simp only at h;split at h<;>first|exact h.elim|exact ⟨_,_,h⟩
    | some n=>exact ⟨_,_,h⟩
   ·exact h.elim
 | _ =>
   simp only [RK.run] at h
   repeat' (split at h)
   all_goals first|exact h.elim|exact ⟨_,_,h⟩
def RK.val? (k:RK) (σ:Sl) (w:World):Option Value :=
 match k with
 | .mv x=>some (ev σ x)
 | .pick c a b=>match ev σ c with
   | .bool t=>some (if t then ev σ a else ev σ b)
   | _=>none
 | .build z ps=>(zW z (ps.map fun p=>(p.1,p.2.1,ev σ p.2.2))).map fun cs=>.agg cs.toArray
 | .ld a=>match ev σ a with
   | .pointer (some p)=>w.cell? p
   | _=>none
 | .ldn a n=>match ev σ a with
   | .pointer (some p)=>(kV w p 0 n).map fun vs=>.agg vs.toArray
   | _=>none
 | .nilc x=>match ev σ x with
   | .pointer (some p)=>some (.pointer (some p))
   | _=>none
 | .bin op x y=>match ev σ x,ev σ y with
   | .int k a,.int k' b=>if kL op||decide (k=k') then kM op k a b else none
   | .string a,.string b=>match op with
     | .eql=>some (.bool (a.toList==b.toList))
     | .neq=>some (.bool !(a.toList==b.toList))
     | _=>none
   | _,_=>none
 | .beq neg x y=>match ev σ x,ev σ y with
   | .bool a,.bool b=>some (.bool (if neg then !(a==b) else a==b))
   | _,_=>none
 | .isnil nk neg x=>match nk,ev σ x with
   | .sl,.slice b _ _=>some (.bool (if neg then !b.isNone else b.isNone))
   | .pt,.pointer b=>some (.bool (if neg then !b.isNone else b.isNone))
   | .mp,.map b=>some (.bool (if neg then !b.isNone else b.isNone))
   | .ic,.nilIface=>some (.bool (if neg then false else true))
   | .ic,.iface _ _=>some (.bool (if neg then true else false))
   | _,_=>none
 | .lnot x=>match ev σ x with
   | .bool b=>some (.bool !b)
   | _=>none
 | .conv k x=>match ev σ x with
   | .int _ n=>some (.int k (k.wrap n))
   | _=>none
 | .b2s x=>match ev σ x with
   | .slice none _ _=>some (.string .empty)
   | .slice (some a) n _=>((kV w a 0 n).bind bytesOf).map fun bs=>.string ⟨bs.toArray⟩
   | _=>none
 | .iad x ix size=>match ev σ x,ev σ ix with
   | .slice (some a) n _,.int _ i=>if 0≤i∧i<n then some (.pointer (some (a.add (i.toNat*size)))) else none
   | _,_=>none
 | .fad x k=>match ev σ x with
   | .pointer (some p)=>some (.pointer (some (p.add k)))
   | _=>none
 | .fld x off n=>match ev σ x with
   | .agg cs=>match n with
     | none=>cs.toList[off]?
     | some n=>some (.agg ((cs.toList.drop off).take n).toArray)
   | _=>none
 | .ext x i=>match ev σ x with
   | .tuple vs=>vs.toList[i]?
   | _=>none
 | .len x=>match ev σ x with
   | .slice _ n _=>some (.int .i64 n)
   | _=>none
 | .slen x=>match ev σ x with
   | .string s=>some (.int .i64 s.size)
   | _=>none
 | .slice x lo hi mx size=>match ev σ x with
   | .slice a n cap =>
     match bnd σ lo 0,bnd σ hi n,bnd σ mx cap with
     | some l,some h,some m=>if 0≤l∧l≤h∧h≤m∧m≤cap then some (.slice (if m.toNat=l.toNat then a else a.map (·.add (l.toNat*size))) (h.toNat-l.toNat) (m.toNat-l.toNat)) else none
     | _,_,_=>none
   | _=>none
 | .mm mx x y=>match ev σ x,ev σ y with
   | .int k a,.int _ b=>some (.int k (if mx then (if a<b then b else a) else (if b<a then b else a)))
   | _,_=>none
 | .idx x ix=>match ev σ x,ev σ ix with
   | .string s,.int _ i=>(if 0≤i then s.data.toList[i.toNat]? else none).map fun b=>.int .u8 b.toNat
   | _,_=>none
 | .mkfunc fn first captured=>some (.func fn (first.map (ev σ)).toArray (captured.map (ev σ)).toArray)
 | .mkif T x=>some (.iface T (ev σ x))
 | .slicea x n=>match ev σ x with
   | .pointer (some p)=>some (.slice (some p) n n)
   | _=>none
 | _=>none
theorem kA7 {P:Program} {k:RK} {σ:Sl} {w:World} {v:Value} {K:Value→World→Prop} (h:k.val? σ w=some v) (hk:K v w):k.run P σ w K:=by
 cases k with
 | build z ps =>
   simp only [RK.val?] at h;simp only [RK.run]
   cases hf:zW z (ps.map fun p=>(p.1,p.2.1,ev σ p.2.2)) with
   | none=>simp [hf] at h
   | some cs=>simp only [hf,Option.map_some,Option.some.injEq] at h;subst h;exact hk
 | ldn a n =>
   simp only [RK.val?] at h;simp only [RK.run]
   split at h
   ·rename_i p hp
    cases hc:kV w p 0 n with
    | none=>simp [hc] at h
    | some vs=>simp only [hc,Option.map_some,Option.some.injEq] at h;subst h;simp only [hp,hc];exact hk
   ·simp at h
 | ld a =>
   simp only [RK.val?] at h;simp only [RK.run]
   split at h
   ·rename_i p hp;simp only [hp,h];exact hk
   ·simp at h
 | b2s x =>
   simp only [RK.val?] at h;simp only [RK.run]
   split at h
   ·rename_i hx;simp only [Option.some.injEq] at h;subst h;simp only [hx];exact hk
   ·rename_i a n c hx
    cases hc:(kV w a 0 n).bind bytesOf with
    | none=>simp [hc] at h
    | some vs=>simp only [hc,Option.map_some,Option.some.injEq] at h;subst h;simp only [hx,hc];exact hk
   ·simp at h
 | bin op x y =>
   simp only [RK.val?] at h;simp only [RK.run]
   split at h
   ·rename_i k a k' b hx hy
    split at h
    ·rename_i hc;simp only [hx,hy,hc,if_true,h];exact hk
    ·simp at h
   ·rename_i a b hx hy
    simp only [hx,hy]
    split at h<;>simp only [Option.some.injEq,reduceCtorEq] at h<;>subst h<;>exact hk
   ·simp at h
 | fld x off n =>
   simp only [RK.val?] at h;simp only [RK.run]
   split at h
   ·rename_i cs hx
    simp only [hx]
    cases n with
    | none=>simp only at h ⊢;rw [h];exact hk
    | some n=>simp only [Option.some.injEq] at h ⊢;subst h;exact hk
   ·simp at h
 | ext x i =>
   simp only [RK.val?] at h;simp only [RK.run]
   split at h
   ·rename_i vs hx;simp only [hx,h];exact hk
   ·simp at h
 | iad x ix size =>
   simp only [RK.val?] at h;simp only [RK.run]
   split at h
   ·rename_i a n c k i hx hi
    split at h
    ·rename_i hb;simp only [Option.some.injEq] at h;subst h;simp only [hx,hi];exact ⟨hb.1,hb.2,hk⟩
    ·simp at h
   ·simp at h
 | slice x lo hi mx size =>
   simp only [RK.val?] at h;simp only [RK.run]
   split at h
   ·rename_i a n c hx
    split at h
    ·rename_i l hh m hl hhi hm
     split at h
     ·rename_i hb;simp only [Option.some.injEq] at h;subst h;simp only [hx]
      simp only [hl,hhi,hm]
      exact ⟨hb.1,hb.2.1,hb.2.2.1,hb.2.2.2,hk⟩
     ·simp at h
    ·simp at h
   ·simp at h
 | mm mx x y=>simp only [RK.val?] at h;simp only [RK.run];split at h<;>simp only [Option.some.injEq,reduceCtorEq] at h;subst h;rename_i hx hy;simp only [hx,hy];exact hk
 | idx x ix =>
   simp only [RK.val?] at h;simp only [RK.run]
   split at h
   ·rename_i s k i hx hi
    simp only [hx,hi]
    cases hc:(if 0≤i then s.data.toList[i.toNat]? else none) with
    | none=>rw [hc] at h;simp only [Option.map_none,reduceCtorEq] at h
    | some b=>simp only [hc,Option.map_some,Option.some.injEq] at h;subst h;exact hk
   ·simp at h
 | mkfunc fn a b=>simp only [RK.val?,Option.some.injEq] at h;subst h;exact hk
 | mkif T x=>simp only [RK.val?,Option.some.injEq] at h;subst h;exact hk
 | isnil nk neg x =>
   simp only [RK.val?] at h;simp only [RK.run]
   split at h<;>simp only [Option.some.injEq,reduceCtorEq] at h<;>subst h<;>rename_i hx<;>simp only [hx]<;>exact hk
 | mv x=>simp only [RK.val?,Option.some.injEq] at h;subst h;exact hk
 | pick c a b=>simp only [RK.val?] at h;simp only [RK.run];split at h<;>simp only [Option.some.injEq,reduceCtorEq] at h;subst h;rename_i t ht;simp only [ht];exact hk
 | nilc x=>simp only [RK.val?] at h;simp only [RK.run];split at h<;>simp only [Option.some.injEq,reduceCtorEq] at h;subst h;rename_i t ht;simp only [ht];exact hk
 | beq neg x y=>simp only [RK.val?] at h;simp only [RK.run];split at h<;>simp only [Option.some.injEq,reduceCtorEq] at h;subst h;rename_i a b hx hy;simp only [hx,hy];exact hk
 | lnot x=>simp only [RK.val?] at h;simp only [RK.run];split at h<;>simp only [Option.some.injEq,reduceCtorEq] at h;subst h;rename_i t ht;simp only [ht];exact hk
 | conv k x=>simp only [RK.val?] at h;simp only [RK.run];split at h<;>simp only [Option.some.injEq,reduceCtorEq] at h;subst h;rename_i ht;simp only [ht];exact hk
 | fad x k=>simp only [RK.val?] at h;simp only [RK.run];split at h<;>simp only [Option.some.injEq,reduceCtorEq] at h;subst h;rename_i t ht;simp only [ht];exact hk
 | slicea x n=>simp only [RK.val?] at h;simp only [RK.run];split at h<;>simp only [Option.some.injEq,reduceCtorEq] at h;subst h;rename_i ht;simp only [ht];exact hk
 | len x=>simp only [RK.val?] at h;simp only [RK.run];split at h<;>simp only [Option.some.injEq,reduceCtorEq] at h;subst h;rename_i ht;simp only [ht];exact hk
 | slen x=>simp only [RK.val?] at h;simp only [RK.run];split at h<;>simp only [Option.some.injEq,reduceCtorEq] at h;subst h;rename_i ht;simp only [ht];exact hk
 | _=>simp [RK.val?] at h
theorem qA {w w':World} {a:Addr} (hB:Below w.heap.size w w') :∀(n i:Nat) (cs:List Value),kV w a i n=some cs→kV w' a i n=some cs:=by
 intro n
 induction n with
 | zero=>intro i cs h;exact h
 | succ n ih =>
 intro i cs h
 simp only [kV] at h ⊢
 cases hv:w.cell? (a.add i) with
 | none=>simp [hv] at h
 | some v =>
 have hlt:=World.block_lt_of_cell? w (a.add i) hv
 have:w'.cell? (a.add i)=some v:=by rw [hB.cell hlt];exact hv
 cases hr:kV w a (i+1) n with
 | none=>simp [hv,hr] at h
 | some r=>simp only [this,ih _ _ hr];simpa [hv,hr] using h
theorem kMO {k:RK} {σ:Sl} {w w':World} {v:Value} (hB:Below w.heap.size w w') (h:k.val? σ w=some v):k.val? σ w'=some v:=by
 cases k with
 | ld a =>
   simp only [RK.val?] at h ⊢
   split at h
   ·rename_i p hp
    have hlt:=World.block_lt_of_cell? w p h
    rw [hB.cell hlt];exact h
   ·simp at h
 | ldn a n =>
   simp only [RK.val?] at h ⊢
   split at h
   ·rename_i p hp
    cases hc:kV w p 0 n with
    | none=>simp [hc] at h
    | some vs=>rw [qA hB _ _ _ hc];rw [hc] at h;exact h
   ·simp at h
 | b2s x =>
   simp only [RK.val?] at h ⊢
   split at h
   ·exact h
   ·rename_i a n c hx
    cases hc:kV w a 0 n with
    | none=>simp [hc] at h
    | some vs=>rw [qA hB _ _ _ hc];rw [hc] at h;exact h
   ·simp at h
 | _=>exact h
theorem kAB {k:RK} {σ σ':Sl} {w:World} (h :∀x∈k.opds,ev σ x=ev σ' x):k.val? σ w=k.val? σ' w:=by
 cases k with
 | build z ps =>
   simp only [RK.val?,RK.opds] at *
   have:(ps.map fun p=>(p.1,p.2.1,ev σ p.2.2))=(ps.map fun p=>(p.1,p.2.1,ev σ' p.2.2)):=by
    apply List.map_congr_left
    intro p hp
    rw [h p.2.2 (List.mem_map.2 ⟨p,hp,rfl⟩)]
   rw [this]
 | slice x lo hi mx size =>
   simp only [RK.opds,List.mem_cons,List.mem_append] at h
   simp only [RK.val?]
   rw [←h x (.inl rfl)]
   have e1:bnd σ' lo 0=bnd σ lo 0:=vZ fun o ho=>h o (.inr (.inl (by simp [ho])))
   have e2 :∀n:Nat,bnd σ' hi n=bnd σ hi n:=fun n=>vZ fun o ho=>h o (.inr (.inr (.inl (by simp [ho]))))
   have e3 :∀n:Nat,bnd σ' mx n=bnd σ mx n:=fun n=>vZ fun o ho=>h o (.inr (.inr (.inr (by simp [ho]))))
   simp only [e1,e2,e3]
 | callv x args=>rfl
 | invk x name args=>rfl
 | mkfunc fn a b =>
   simp only [RK.val?,RK.opds,List.mem_append] at *
   rw [←List.map_congr_left fun y hy=>h y (.inl hy),←List.map_congr_left fun y hy=>h y (.inr hy)]
 | alloc z=>rfl
 | bslice n z ps=>rfl
 | call f args=>rfl
 | _ =>
   simp only [RK.opds,List.mem_cons,List.not_mem_nil,or_false,forall_eq_or_imp,forall_eq] at h
   simp only [RK.val?]
   try simp only [h]
structure DI where
 ri:RI
 node:Bool
 deps:List Nat
 deriving Inhabited
def known (l:List DI) (Φ:Nat→Value→World→Prop) (js:List Nat) (σ:Sl) (w:World):Prop :=
 ∀j∈js,∀d,l[j]?=some d→d.node=true→gOk d.ri.guard σ=true →∀t,d.ri.dst=some t→Φ j (σ t) w
def walk (P:Program) (l:List DI) (R:World→World→Prop) (Φ:Nat→Value→World→Prop) (N:Nat→World→Prop) (w0:World) (E:Sl→Prop):Nat→List DI→Sl→Prop
 | _,[],σ=>E σ
 | k,d::r,σ =>
 if gOk d.ri.guard σ=true then
 if d.node=true then
 (∀w,R w0 w→N k w→known l Φ d.deps σ w→d.ri.k.run P σ w fun v w'=>R w w'∧Φ k v w' ∧∀j,j≠k→N j w→N j w') ∧
 ∀v,(∃w,Φ k v w)→walk P l R Φ N w0 E (k+1) r (updo σ d.ri.dst v)
 else
 ∃v,(∀w,R w0 w→known l Φ d.deps σ w→d.ri.k.val? σ w=some v)∧walk P l R Φ N w0 E (k+1) r (updo σ d.ri.dst v)
 else walk P l R Φ N w0 E (k+1) r (updo σ d.ri.dst undef)
def wpD (P:Program) (l:List DI) (sinks:List RI) (σ:Sl) (w0:World) (Q:Sl→World→Prop):Prop :=
 ∃(R:World→World→Prop) (Φ:Nat→Value→World→Prop) (N:Nat→World→Prop),(∀w,R w w)∧(∀u v w,R u v→R v w→R u w)∧(∀j v w w',Φ j v w→R w w'→Φ j v w')∧(∀j,N j w0) ∧
 walk P l R Φ N w0 (fun σ' =>∀w,R w0 w→known l Φ (List.range l.length) σ' w→wpR P sinks σ' w Q) 0 l σ
inductive IC where
 | skip
 | ret
 | blk (l:List RI)
 | drw (l:List DI) (sinks:List RI)
 | seq (a b:IC)
 | cond (c:Operand) (a b:IC)
 | block (id:Nat) (a:IC)
 | loop (a:IC)
 | exit (id:Nat)
 | goto (l:Nat)
 | scope (a:IC)
 | scopeTo (a:IC) (l:Nat) (rest:IC)
 | rnd (d1 d2:Nat)
 | bad
 deriving Inhabited
def kD6 (Q:Exit→Sl→World→Prop):Exit→Sl→World→Prop
 | .goto _,_,_=>False
 | e,σ,w=>Q e σ w
def jumpC (l:Nat) (J:Sl→World→Prop) (Q:Exit→Sl→World→Prop):Exit→Sl→World→Prop
 | .goto l',σ,w=>l'=l∧J σ w
 | e,σ,w=>Q e σ w
def kF (next:Sl→World→Prop) (Q:Exit→Sl→World→Prop):Exit→Sl→World→Prop
 | .normal,σ,w=>next σ w
 | e,σ,w=>Q e σ w
def kR (id:Nat) (Q:Exit→Sl→World→Prop):Exit→Sl→World→Prop
 | .exit id',σ,w=>if id'=id then Q .normal σ w else Q (.exit id') σ w
 | e,σ,w=>Q e σ w
def wpC (P:Program):IC→(Exit→Sl→World→Prop)→Sl→World→Prop
 | .skip,Q,σ,w=>Q .normal σ w
 | .ret,Q,σ,w=>Q .ret σ w
 | .blk l,Q,σ,w=>wpR P l σ w (Q .normal)
 | .drw l s,Q,σ,w=>wpD P l s σ w.drew (Q .normal)
 | .seq a b,Q,σ,w=>wpC P a (kF (wpC P b Q) Q) σ w
 | .cond c a b,Q,σ,w=>match ev σ c with
   | .bool true=>wpC P a Q σ w
   | .bool false=>wpC P b Q σ w
   | _=>False
 | .block id a,Q,σ,w=>wpC P a (kR id Q) σ w
 | .loop a,Q,σ,w =>∃(I:Sl→World→Prop) (μ:Sl→World→Nat),I σ w ∧
   ∀σ w,I σ w→wpC P a (kF (fun σ' w'=>I σ' w'∧μ σ' w'<μ σ w) Q) σ w
 | .exit id,Q,σ,w=>Q (.exit id) σ w
 | .goto l,Q,σ,w=>Q (.goto l) σ w
 | .scope a,Q,σ,w=>wpC P a (kD6 Q) σ w
 | .scopeTo a l r,Q,σ,w=>wpC P a (jumpC l (wpC P r (kD6 Q)) Q) σ w
 | .bad,_,_,_=>False
 | .rnd d1 d2,Q,σ,w =>∀(c:Bool) (T:TypeId),Q .normal (upd (upd σ d1 (.pointer (some ⟨w.heap.size,0,none⟩))) d2 (.bool c)) (w.drew.alloc (.cells [.bool c].toArray T))
def slots (a:Act):Sl:=fun t=>a.tmps.getD t undef
theorem uA (a:Act) (x:Operand):a.eval x=ev (slots a) x:=by cases x<;>rfl
theorem kAC {a:Act} {d:Option Nat} {v:Value} (h :∀t,d=some t→t<a.tmps.size):slots (a.put d v)=updo (slots a) d v:=by
 cases d with
 | none=>rfl
 | some d =>
 have hd:=h d rfl
 funext t
 simp only [slots,Act.put,updo,upd,Array.getD_eq_getD_getElem?]
 by_cases ht:t=d
 ·subst ht;simp [hd]
 ·rw [if_neg ht,Array.getElem?_setIfInBounds_ne (fun e=>ht e.symm)]
theorem kOX (a:Act) (d:Option Nat) (v:Value):(a.put d v).tmps.size=a.tmps.size:=by
 cases d<;>simp [Act.put]
theorem kOY (a:Act) (d:Option Nat) (v:Value):(a.put d v).defers=a.defers:=by
 cases d<;>rfl
def dstOk (nt:Nat):Option Nat→Bool
 | some d=>decide (d<nt)
 | none=>true
def kDB (P:Program) (nt:Nat) (ops:Array Oper) (o:Oper):Option RI :=
 match wT P o.op with
 | none=>none
 | some k =>
 if dstOk nt o.dst=true then
 match o.guard with
 | none=>some ⟨o.dst,k,none⟩
 | some (j,b)=>match (ops[j]?).bind (·.dst) with
 | some d=>if d<nt then some ⟨o.dst,k,some (d,b)⟩ else none
 | none=>none
 else none
theorem uN {P:Program} {nt:Nat} {ops:Array Oper} {o:Oper} {i:RI} (h:kDB P nt ops o=some i) :
  wT P o.op=some i.k∧o.dst=i.dst∧(∀t,i.dst=some t→t<nt) ∧
  (∀a:Act,a.tmps.size=nt→Region.wanted o (yielded ops a.tmps)=gOk i.guard (slots a)) ∧
  (∀d b,i.guard=some (d,b) →∃j,o.guard=some (j,b)∧(ops[j]?).bind (·.dst)=some d):=by
 unfold kDB at h
 split at h
 ·simp at h
 ·rename_i k hk
  split at h
  ·rename_i hd
   have hd' :∀t,o.dst=some t→t<nt:=by
    intro t ht;rw [ht] at hd;simpa [dstOk] using hd
   split at h
   ·rename_i hg
    simp only [Option.some.injEq] at h;subst h
    exact ⟨hk,rfl,hd',fun a _=>by simp [Region.wanted,hg,gOk],fun d b h=>by simp at h⟩
   ·rename_i j b hg
    split at h
    ·rename_i d hj
     split at h
     ·rename_i hlt
      simp only [Option.some.injEq] at h;subst h
      refine ⟨hk,rfl,hd',fun a ha=>?_,fun d' b' h=>?_⟩
      ·have hda:d<a.tmps.size:=by rw [ha];exact hlt
       have h1:a.tmps[d]?=some (slots a d):=by
        simp [slots,Array.getD_eq_getD_getElem?,Array.getElem?_eq_getElem hda]
       simp only [Region.wanted,hg,yielded,hj,Option.bind_some,h1,gOk]
       cases slots a d<;>simp
      ·simp only [Option.some.injEq,Prod.mk.injEq] at h
       obtain ⟨rfl,rfl⟩:=h
       exact ⟨j,hg,hj⟩
     ·simp at h
    ·simp at h
  ·simp at h
def Good (nt:Nat) (a:Act):Prop:=a.tmps.size=nt∧a.defers=[]
theorem Good.put {nt:Nat} {a:Act} (h:Good nt a) (d:Option Nat) (v:Value):Good nt (a.put d v) :=
 ⟨by rw [kOX];exact h.1,by rw [kOY];exact h.2⟩
def onSl (nt:Nat) (Q:Exit→Sl→World→Prop):Exit→Act→World→Prop:=fun e a w=>Good nt a∧Q e (slots a) w
theorem kJE {P:Program} {nt:Nat} {ops:Array Oper} {o:Oper} {i:RI} {j:Nat} {a:Act} {w:World} {K:Act→World→Prop} {Q:Exit→Act→World→Prop}
  (ho:ops[j]?=some o) (h:kDB P nt ops o=some i) (ha:Good nt a)
  (hw:if gOk i.guard (slots a)=true then i.k.run P (slots a) w fun v w'=>K (a.put i.dst v) w' else K (a.put i.dst undef) w) :
  wpOp P ops Q j K a w:=by
 obtain ⟨h1,h2,h3,h4,-⟩:=uN h
 unfold wpOp
 simp only [ho]
 rw [h4 a ha.1]
 split at hw
 ·rename_i hg
  rw [if_pos hg]
  left
  apply uM
  rw [h2]
  exact kDO h1 (fun x=>uA a x) hw
 ·rename_i hg
  rw [if_neg hg,h2];exact hw
theorem kOZ {P:Program} {nt:Nat} {ops:Array Oper} {Q:Exit→Sl→World→Prop} :∀(l:List RI) (k:Nat) (n:Nat) (a:Act) (w:World),
  (∀j,j<n →∃o i,ops[k+j]?=some o∧l[j]?=some i∧kDB P nt ops o=some i)→l.length=n→Good nt a →
  wpR P l (slots a) w (Q .normal)→wpOps P ops (onSl nt Q) (List.range' k n) a w:=by
 intro l
 induction l with
 | nil =>
   intro k n a w h hl ha hw
   simp at hl;subst hl
   simp only [List.range'_zero,wpOps]
   exact ⟨ha,hw⟩
 | cons i l ih =>
   intro k n a w h hl ha hw
   cases n with
   | zero=>simp at hl
   | succ n =>
     obtain ⟨o,i',ho,hi,hlift⟩:=h 0 (by omega)
     simp only [List.getElem?_cons_zero,Option.some.injEq] at hi;subst hi
     simp only [Nat.add_zero] at ho
     rw [List.range'_succ,wpOps_cons]
     have h3:=(uN hlift).2.2.1
     have hstep :∀v w',wpR P l (updo (slots a) i.dst v) w' (Q .normal)→wpOps P ops (onSl nt Q) (List.range' (k+1) n) (a.put i.dst v) w':=by
      intro v w' hv
      refine ih (k+1) n (a.put i.dst v) w' (fun j hj=>?_) (by simpa using hl) (ha.put _ _) ?_
      ·obtain ⟨o,i,h1,h2,h3⟩:=h (j+1) (by omega)
       exact ⟨o,i,by rw [show k+1+j=k+(j+1) by omega];exact h1,by simpa using h2,h3⟩
      ·rw [kAC (fun t ht=>by rw [ha.1];exact h3 t ht)];exact hv
     refine kJE ho hlift ha ?_
     simp only [wpR,RI.wp] at hw
     split at hw
     ·rename_i hg
      rw [if_pos hg]
      exact vO hw (fun v w'=>hstep v w')
     ·rename_i hg
      rw [if_neg hg];exact hstep _ _ hw
end Go.Msk
