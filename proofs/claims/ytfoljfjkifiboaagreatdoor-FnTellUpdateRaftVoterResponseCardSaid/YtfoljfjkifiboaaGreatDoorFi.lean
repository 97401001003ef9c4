/- A small language of resolved operations, and what the generic and the generated functions do in it (part 9). -/
import Derived.Test.YtfoljfjkifiboaaGreatDoorFh
namespace Go.Msk
open Go.RowKit
set_option maxRecDepth 100000
inductive EK where
 | num (conv:Bool)
 | str
 | tell (f:FuncId)
 deriving Inhabited
def EK.dis (p e idx:Nat):EK→List DI
 | .num true=>[nd ⟨some e,.ld (.tmp p),none⟩,nd ⟨some (e+1),.conv .i64 (.tmp e),none⟩,nd ⟨some (e+2),.build tzero [(0,1,.tmp (e+1))],none⟩]
 | .num false=>[nd ⟨some e,.ld (.tmp p),none⟩,nd ⟨some (e+1),.build tzero [(0,1,.tmp e)],none⟩]
 | .str=>[nd ⟨some e,.ld (.tmp p),none⟩,⟨⟨some (e+1),.s2b (.tmp e),none⟩,true,[]⟩,⟨⟨some (e+2),.build tzero [(1,1,.tmp (e+1))],none⟩,false,[idx+1]⟩]
 | .tell f=>[⟨⟨some e,.call f [.tmp p],none⟩,true,[]⟩]
def EK.n:EK→Nat
 | .num true=>3
 | .num false=>2
 | .str=>3
 | .tell _=>1
def EK.node (idx:Nat):EK→List Nat
 | .num _=>[]
 | .str=>[idx+1]
 | .tell _=>[idx]
def EK.sz:EK→Nat→Nat
 | .tell _,n=>n
 | _,_=>1
def EK.ty (T:List GV→Prop):EK→GV→Prop
 | .num true,g =>∃k n,g=.num (.int k n)
 | .num false,g =>∃n,g=.num (.int .i64 n)∧IntKind.i64.wrap n=n
 | .str,g =>∃l,g=.num (Msk.str l)
 | .tell _,g =>∃l,g=.rcd l∧T l
def kPJ (P:Program) (f:FuncId) (T:List GV→Prop):Prop :=
 ∀(O:List Nat) (w:World) (B base:Nat) (gs:List GV) (css:List (List Value)),T gs→RepL O w gs css→Cells w ⟨B,base,none⟩ css.flatten →
 kPI P f [.pointer (some ⟨B,base,none⟩)] w (GV.rcd gs).told
def EK.Ok (P:Program) (T:List GV→Prop):EK→Prop
 | .tell f=>kPJ P f T
 | _=>True
def EK.Phi (n0:Nat) (g:GV):EK→Value→World→Prop
 | .num _,_,_=>True
 | .str,v,w =>∃l,g=.num (Msk.str l)∧SlC (fun b=>n0≤b) w v l.length (u8s l)
 | .tell _,v,w =>∃cs,v=.agg cs.toArray∧RepT (fun b=>n0≤b) w g.told cs
theorem EK.Phi.mod {k:EK} {n0:Nat} {g:GV} {v:Value} {w w':World} {S:List Nat} (h:k.Phi n0 g v w) (hm:Mod S w w') (hS :∀b∈S,b<n0):k.Phi n0 g v w':=by
 cases k with
 | num c=>trivial
 | str =>
   obtain ⟨l,h1,h2⟩:=h
   exact ⟨l,h1,h2.mod hm (fun b hb=>by have:=hS b hb;omega) fun _ _ h=>h⟩
 | tell f =>
   obtain ⟨cs,h1,h2⟩:=h
   exact ⟨cs,h1,h2.mod hm (fun b hb=>by have:=hS b hb;omega) fun _ _ h=>h⟩
section
variable {P:Program}
theorem qK {l:List DI} {R:World→World→Prop} {Φ:Nat→Value→World→Prop} {w0:World} {E:Sl→Prop} {n:Nat} {k:RK} {d:Option Nat} {ds:List Nat} {r:List DI} {σ:Sl} {v:Value} (hv :∀w,R w0 w→k.val? σ w=some v)
 (h:walk P l R Φ NT w0 E (n+1) r (updo σ d v)):walk P l R Φ NT w0 E n (⟨⟨d,k,none⟩,false,ds⟩::r) σ:=by
 simp only [walk,gOk,if_true,Bool.false_eq_true,if_false]
 exact ⟨v,fun w hw _=>hv w hw,h⟩
theorem xX {l:List DI} {R:World→World→Prop} {Φ:Nat→Value→World→Prop} {w0:World} {E:Sl→Prop} {n:Nat} {k:RK} {d:Option Nat} {ds:List Nat} {r:List DI} {σ:Sl}
 (hn :∀w,R w0 w→known l Φ ds σ w→k.run P σ w fun v w'=>R w w'∧Φ n v w') (h :∀v,(∃w,Φ n v w)→walk P l R Φ NT w0 E (n+1) r (updo σ d v)):walk P l R Φ NT w0 E n (⟨⟨d,k,none⟩,true,ds⟩::r) σ:=by
 simp only [walk,gOk,if_true]
 exact ⟨fun w h1 _ h2=>vO (hn w h1 h2) fun v w' hk=>⟨hk.1,hk.2,fun _ _ _=>trivial⟩,h⟩
def EK.val (e:Nat) (k:EK):Nat:=e+k.n-1
theorem EK.kND {k:EK} {T:List GV→Prop} (hk:k.Ok P T) {l:List DI} {R:World→World→Prop} {Φ:Nat→Value→World→Prop} {w0:World} {E:Sl→Prop} {r:List DI} {p e idx A o:Nat} {O S:List Nat} {g:GV} {cs:List Value} {σ:Sl}
  (_hp:p<e) (hσ:σ p=.pointer (some ⟨A,o,none⟩)) (hRS :∀w,R w0 w→Mod S w0 w) (hR0 :∀w w',Mod [] w w'→R w w') (hS :∀x∈S,x∈O∧x≠A) (hg:k.ty T g) (hr:Rep O w0 g cs) (hc:Cells w0 ⟨A,o,none⟩ cs) (hcs:cs≠[]∨True)
  (hΦ :∀j v w,j∈k.node idx→(k.Phi w0.heap.size g v w↔Φ j v w))
  (h :∀σ',Ag e σ σ'→(∀w,(∀j∈k.node idx,Φ j (σ' (e+(j-idx))) w) →∃cs,σ' (k.val e)=.agg cs.toArray∧RepT (fun b=>w0.heap.size≤b) w g.told cs)→walk P l R Φ NT w0 E (idx+k.n) r σ') :
  walk P l R Φ NT w0 E idx (k.dis p e idx++r) σ:=by
 have hcw :∀w,R w0 w→Cells w ⟨A,o,none⟩ cs:=fun w hw=>hc.mod (hRS w hw) (.inr fun hx=>(hS _ hx).2 rfl)
 cases k with
 | num c =>
   cases c with
   | true =>
     obtain ⟨kk,m,rfl⟩:=hg
     have hv:cs=[.int kk m]:=by cases hr;rfl
     subst hv
     simp only [EK.dis,nd,List.cons_append,List.nil_append]
     refine qK (v:=.int kk m) (fun w hw=>by simp only [RK.val?,ev,hσ];exact (hcw w hw).head) ?_
     refine qK (v:=.int .i64 (IntKind.i64.wrap m)) (fun w hw=>by simp only [RK.val?,ev,updo,upd_same]) ?_
     refine qK (v:=.agg #[.int .i64 (IntKind.i64.wrap m),.slice none 0 0,.bool false,.slice none 0 0,.slice none 0 0]) (fun w hw=>by
      simp only [RK.val?,ev,updo,upd_same,tzero,zW,List.map_cons,List.map_nil,Value.cells];simp [splice]) ?_
     refine h _ (fun j hj=>?_) fun w _=>⟨[.int .i64 (IntKind.i64.wrap m),.slice none 0 0,.bool false,.slice none 0 0,.slice none 0 0],?_,RepT.num _ _⟩
     ·simp only [updo,upd,show j≠e by omega,show j≠e+1 by omega,show j≠e+2 by omega,if_false]
     ·show updo _ (some (e+2)) _ (e+3-1)=_
      simp only [updo,upd,show e+3-1=e+2 by omega,if_true]
   | false =>
     obtain ⟨m,rfl,hm⟩:=hg
     have hv:cs=[.int .i64 m]:=by cases hr;rfl
     subst hv
     simp only [EK.dis,nd,List.cons_append,List.nil_append]
     refine qK (v:=.int .i64 m) (fun w hw=>by simp only [RK.val?,ev,hσ];exact (hcw w hw).head) ?_
     refine qK (v:=.agg #[.int .i64 (IntKind.i64.wrap m),.slice none 0 0,.bool false,.slice none 0 0,.slice none 0 0]) (fun w hw=>by
      simp only [RK.val?,ev,updo,upd_same,tzero,zW,List.map_cons,List.map_nil,Value.cells];simp [splice,hm]) ?_
     refine h _ (fun j hj=>?_) fun w _=>⟨[.int .i64 (IntKind.i64.wrap m),.slice none 0 0,.bool false,.slice none 0 0,.slice none 0 0],?_,RepT.num _ _⟩
     ·simp only [updo,upd,show j≠e by omega,show j≠e+1 by omega,if_false]
     ·show updo _ (some (e+1)) _ (e+2-1)=_
      simp only [updo,upd,show e+2-1=e+1 by omega,if_true]
 | str =>
   obtain ⟨s,rfl⟩:=hg
   have hv:cs=[Msk.str s]:=by cases hr;rfl
   subst hv
   simp only [EK.dis,nd,List.cons_append,List.nil_append]
   refine qK (v:=Msk.str s) (fun w hw=>by simp only [RK.val?,ev,hσ];exact (hcw w hw).head) ?_
   refine xX (fun w1 hw1 _=>?_) fun u hu=>?_
   ·simp only [RK.run,ev,updo,upd_same,Msk.str]
    intro T cap rest hcap hrest
    have hsz:(⟨s.toArray⟩:ByteArray).size=s.length:=by simp [ByteArray.size]
    rw [hsz] at hcap hrest ⊢
    have hblk:=Blk.new' w1.drew (u8s s++rest) T (cap,cap+1) (by simp only [List.length_append,kY];omega)
    refine ⟨hR0 _ _ ((Mod.drew _ _).trans (Mod.alloc _ _ _)),(hΦ (idx+1) _ _ (by simp [EK.node])).1 ⟨s,rfl,some ⟨w1.heap.size,0,none⟩,cap,rfl,hcap,fun h=>by simp at h,fun a ha _=>?_⟩⟩
    simp only [Option.some.injEq] at ha
    subst ha
    refine ⟨(hRS _ hw1).size,hblk.lt,?_⟩
    have:=hblk.cells.take (u8s s).length
    simpa using this
   have hu' :∃b c,u=.slice b s.length c:=by
    obtain ⟨w1,hu⟩:=hu
    obtain ⟨s',e1,b1,c1,rfl,-⟩:=(hΦ (idx+1) _ _ (by simp [EK.node])).2 hu
    have:s=s':=by
     have:=congrArg (fun g=>match g with|GV.num (.string x)=>x.data.toList|_=>[]) e1
     simpa [Msk.str] using this
    subst this
    exact ⟨_,_,rfl⟩
   obtain ⟨b1,c1,rfl⟩:=hu'
   refine qK (v:=.agg #[.int .i64 0,.slice b1 s.length c1,.bool false,.slice none 0 0,.slice none 0 0]) (fun w hw=>by
    simp only [RK.val?,ev,updo,upd_same,tzero,zW,List.map_cons,List.map_nil,Value.cells];simp [splice]) ?_
   refine h _ (fun j hj=>?_) fun w hkn=>⟨[.int .i64 0,.slice b1 s.length c1,.bool false,.slice none 0 0,.slice none 0 0],?_,?_⟩
   ·simp only [updo,upd,show j≠e by omega,show j≠e+1 by omega,show j≠e+2 by omega,if_false]
   ·show updo _ (some (e+2)) _ (e+3-1)=_
    simp only [updo,upd,show e+3-1=e+2 by omega,if_true]
   ·have h6:=hkn (idx+1) (by simp [EK.node])
    simp only [Nat.add_sub_cancel_left,updo,upd,show e+1≠e+2 by omega,if_false,if_true] at h6
    obtain ⟨s',e1,h6⟩:=(hΦ (idx+1) _ _ (by simp [EK.node])).2 h6
    have:s=s':=by
     have:=congrArg (fun g=>match g with|GV.num (.string x)=>x.data.toList|_=>[]) e1
     simpa [Msk.str] using this
    subst this
    exact RepT.oct false h6
 | tell f =>
   obtain ⟨gl,rfl,hT⟩:=hg
   obtain ⟨css,rfl,hrl⟩ :∃css,cs=css.flatten∧RepL O w0 gl css:=by
    cases hr with
    | rcd h=>exact ⟨_,rfl,h⟩
   simp only [EK.dis,List.cons_append,List.nil_append]
   refine xX (fun w1 hw1 _=>?_) fun u hu=>?_
   ·simp only [RK.run,ev,hσ,List.map_cons,List.map_nil]
    have hm1:=hRS w1 hw1
    refine (hk O w1 A o gl css hT (hrl.fresh hm1 (fun x hx=>.inl (hS x hx).1) (fun x hx=>.inl hx)) (hcw w1 hw1)).mono ?_
    rintro e w2 ⟨cs,rfl,hrep,hm2⟩
    exact ⟨_,rfl,hR0 _ _ hm2,(hΦ idx _ _ (by simp [EK.node])).1 ⟨cs,rfl,hrep.mod (Mod.refl [] _) (by simp) fun b _ hb=>Nat.le_trans hm1.size hb⟩⟩
   refine h _ (fun j hj=>?_) fun w hkn=>?_
   ·simp only [updo,upd,show j≠e by omega,if_false]
   ·have h6:=hkn idx (by simp [EK.node])
    simp only [Nat.sub_self,Nat.add_zero] at h6
    obtain ⟨cs',e1,h6⟩:=(hΦ idx _ _ (by simp [EK.node])).2 h6
    exact ⟨cs',by simpa [EK.val,EK.n] using e1,h6⟩
end
def own:Value→Option Nat
 | .slice (some a) _ _=>some a.block
 | _=>none
structure LRaw (w:World) (n0:Nat) (lv:Value) (css:List (List Value)):Prop where
 five :∀cs∈css,cs.length=5
 sl:(lv=.slice none 0 0∧css=[]) ∨∃BA cap rest,lv=.slice (some ⟨BA,0,none⟩) css.length cap∧css.length≤cap∧n0≤BA∧Blk w BA (css.flatten++rest)∧rest.length=(cap-css.length)*5
theorem LRaw.mod {w w':World} {n0:Nat} {lv:Value} {css:List (List Value)} {S:List Nat} (h:LRaw w n0 lv css) (hm:Mod S w w') (hS :∀b,own lv=some b→b ∉ S):LRaw w' n0 lv css:=by
 refine ⟨h.five,?_⟩
 rcases h.sl with h1|⟨BA,cap,rest,h1,h2,h3,h4,h5⟩
 ·exact .inl h1
 ·exact .inr ⟨BA,cap,rest,h1,h2,h3,h4.mod hm (hS _ (by rw [h1];rfl)),h5⟩
theorem LRaw.own {w:World} {n0:Nat} {lv:Value} {css:List (List Value)} (h:LRaw w n0 lv css) {b:Nat} (hb:own lv=some b):n0≤b∧b<w.heap.size:=by
 rcases h.sl with ⟨h1,-⟩|⟨BA,cap,rest,h1,h2,h3,h4,h5⟩
 ·rw [h1] at hb;simp [Msk.own] at hb
 ·rw [h1] at hb;simp only [Msk.own,Option.some.injEq] at hb;subst hb;exact ⟨h3,h4.lt⟩
theorem flat5 {css:List (List Value)} (h :∀cs∈css,cs.length=5):css.flatten.length=css.length*5:=yD h
theorem uH {p r es:List Value} {o:Nat} (h:p.length=o):splice (p++r) o es=p++(es++r.drop es.length):=by
 subst h
 unfold splice
 rw [List.take_left,List.drop_length_add_append]
theorem vE (css:List (List Value)) (es:List Value):(css++[es]).flatten=css.flatten++es:=by simp
section
variable {P:Program}
theorem kBU {σ:Sl} {w:World} {x y:Operand} {lv:Value} {css:List (List Value)} {es:List Value} {n0 sb:Nat} {K:Value→World→Prop} (hx:ev σ x=lv) (hraw:LRaw w n0 lv css) (hn0:n0≤w.heap.size)
  (hy:ev σ y=.slice (some ⟨sb,0,none⟩) 1 1) (hsb:Blk w sb es) (h5:es.length=5) (hone :∀v∈es,v.oneCell'=true) (hl:css.length≤2147483647)
  (hK :∀lv' w',LRaw w' n0 lv' (css++[es])→(((own lv'=own lv∧Mod (own lv).toList w w') ∧∃BA c,lv=.slice (some ⟨BA,0,none⟩) css.length c∧css.length+1≤c)∨(own lv'=some w.heap.size∧Mod [] w w'))→K lv' w'):(RK.append x y 5 88).run P σ w K:=by
 have hsrc:qI w 5 (.slice (some ⟨sb,0,none⟩) 1 1)=some (1,es):=by
  simp only [qI,kJ hsb.cells (n:=1*5) (by omega),Option.map_some]
 simp only [RK.run,hx,hy]
 have h5' :∀cs∈css++[es],cs.length=5:=fun cs hc=>by
  rcases List.mem_append.1 hc with hc|hc
  ·exact hraw.five cs hc
  ·simp only [List.mem_singleton] at hc;subst hc;exact h5
 have hfl:=flat5 hraw.five
 rcases hraw.sl with ⟨rfl,rfl⟩|⟨BA,cap,rest,rfl,h2,h3,h4,hr⟩
 ·simp only [hsrc,qV]
  rw [if_neg (by omega)]
  refine ⟨by omega,by omega,?_⟩
  intro T cap rest hc hr
  refine hK _ _ ⟨h5',.inr ⟨w.heap.size,cap,rest,rfl,by simpa using hc,hn0,?_,by simpa using hr⟩⟩ (.inr ⟨rfl,(Mod.drew _ _).trans (Mod.alloc _ _ _)⟩)
  have:=Blk.new w.drew (es++rest) T
  simpa using this
 ·simp only [hsrc,qV]
  by_cases hc:css.length+1≤cap
  ·rw [if_pos hc]
   simp only [Addr.kK,Nat.zero_add]
   refine ⟨qL h4 (by simp only [List.length_append];omega) hone,hK _ _ ⟨h5',.inr ⟨BA,cap,rest.drop 5,by simp,by simpa using hc,h3,?_,by simp;omega⟩⟩ (.inl ⟨⟨rfl,by simpa [own] using Mod.put (by simp)⟩,BA,cap,rfl,hc⟩)⟩
   have hput:=h4.put (o:=css.length*5) (vs:=es) (by simp only [List.length_append];omega)
   have:splice (css.flatten++rest) (css.length*5) es=(css++[es]).flatten++rest.drop 5:=by
    rw [uH hfl,h5,vE,List.append_assoc]
   rwa [this] at hput
  ·rw [if_neg hc]
   refine ⟨by omega,by omega,?_⟩
   have hco:kV w ⟨BA,0,none⟩ 0 (css.length*5)=some css.flatten:=by
    have:=h4.cells.take css.flatten.length
    rw [List.take_left] at this
    exact kJ this hfl
   simp only [hco]
   intro T cap' rest' hc' hr'
   refine hK _ _ ⟨h5',.inr ⟨w.heap.size,cap',rest',by simp,by simpa using hc',hn0,?_,by simpa using hr'⟩⟩ (.inr ⟨rfl,(Mod.drew _ _).trans (Mod.alloc _ _ _)⟩)
   have:=Blk.new w.drew (css.flatten++(es++rest')) T
   simpa using this
theorem LRaw.setLast {w:World} {n0:Nat} {lv:Value} {css:List (List Value)} {es cs:List Value} (h:LRaw w n0 lv (css++[es])) (h5:cs.length=5) (hone :∀v∈cs,v.oneCell'=true) :
  ∃BA cap,lv=.slice (some ⟨BA,0,none⟩) (css.length+1) cap∧n0≤BA∧StOk w ⟨BA,css.length*5,none⟩ cs∧LRaw (putCells w ⟨BA,css.length*5,none⟩ 0 cs) n0 lv (css++[cs]) ∧
   Mod [BA] w (putCells w ⟨BA,css.length*5,none⟩ 0 cs):=by
 have hes:es.length=5:=h.five es (by simp)
 have h5c :∀c∈css,c.length=5:=fun c hc=>h.five c (by simp [hc])
 have hfl:=flat5 h5c
 rcases h.sl with ⟨-,h1⟩|⟨BA,cap,rest,rfl,h2,h3,h4,hr⟩
 ·simp at h1
 ·refine ⟨BA,cap,by simp,h3,?_,⟨fun c hc=>?_,.inr ⟨BA,cap,rest,by simp,by simpa using h2,h3,?_,by simpa using hr⟩⟩,Mod.put (by simp)⟩
  ·exact qL h4 (by rw [vE];simp only [List.length_append];omega) hone
  ·rcases List.mem_append.1 hc with hc|hc
   ·exact h5c c hc
   ·simp only [List.mem_singleton] at hc;subst hc;exact h5
  ·have hput:=h4.put (o:=css.length*5) (vs:=cs) (by rw [vE];simp only [List.length_append];omega)
   have:splice ((css++[es]).flatten++rest) (css.length*5) cs=(css++[cs]).flatten++rest:=by
    rw [vE,vE,List.append_assoc,jY hfl (by omega),List.append_assoc]
   rwa [this] at hput
structure LS (w0 w:World) (Tb Lb n:Nat) (pre post:List Value) (nl:Bool) (lv:Value) (ts:List TR) (tcs:List (List Value)):Prop where
 tw:TW w Tb Lb n (pre++([.int .i64 0,.slice none 0 0,.bool nl,lv,.slice none 0 0]++post))
 raw:LRaw w w0.heap.size lv tcs
 rep:jN (fun b=>w0.heap.size≤b∧own lv≠some b) w ts tcs
 mod:Mod [Lb] w0 w
 ltb:Tb<w0.heap.size
 llb:Lb<w0.heap.size
theorem TW.mod {w w':World} {Tb Lb n:Nat} {cs:List Value} {S:List Nat} (h:TW w Tb Lb n cs) (hm:Mod S w w') (h1:Tb ∉ S) (h2:Lb ∉ S):TW w' Tb Lb n cs:=⟨h.tb.mod hm h1,h.lb.mod hm h2,h.ne⟩
theorem LS.same {w0 w w':World} {Tb Lb n:Nat} {pre post:List Value} {nl:Bool} {lv:Value} {ts:List TR} {tcs:List (List Value)} (h:LS w0 w Tb Lb n pre post nl lv ts tcs) (hm:Mod [] w w'):LS w0 w' Tb Lb n pre post nl lv ts tcs :=
 ⟨h.tw.mod hm (by simp) (by simp),h.raw.mod hm (by simp),h.rep.mod hm (by simp) (fun _ _ h=>h),h.mod.trans hm.nil,h.ltb,h.llb⟩
theorem LS.appended {w0 w wr w':World} {Tb Lb n:Nat} {pre post:List Value} {nl:Bool} {lv lv':Value} {ts:List TR} {tcs:List (List Value)} (h:LS w0 w Tb Lb n pre post nl lv ts tcs)
  (hown:(own lv'=own lv∧Mod (own lv).toList w w')∨(own lv'=some w.heap.size∧Mod [] w w')) (hwr :∀b,own lv=some b→b<wr.heap.size) (hr0:w0.heap.size≤wr.heap.size) :
  TW w' Tb Lb n (pre++([.int .i64 0,.slice none 0 0,.bool nl,lv,.slice none 0 0]++post))∧jN (fun b=>w0.heap.size≤b∧own lv'≠some b) w' ts tcs∧Mod [Lb] w0 w' ∧
  ∀t cs,RepT (fun b=>wr.heap.size≤b) w t cs→RepT (fun b=>w0.heap.size≤b∧own lv'≠some b) w' t cs:=by
 have hlt :∀b,own lv=some b→w0.heap.size≤b:=fun b hb=>(h.raw.own hb).1
 have h1:=h.ltb
 have h2:=h.llb
 rcases hown with ⟨ho,hm⟩|⟨ho,hm⟩
 ·have hS :∀b∈(own lv).toList,own lv=some b:=fun b hb=>by simpa using hb
  refine ⟨h.tw.mod hm (fun hc=>by have:=hlt _ (hS _ hc);omega) (fun hc=>by have:=hlt _ (hS _ hc);omega),h.rep.mod hm (fun b hb hc=>hc.2 (hS b hb)) (fun b _ hb=>by rw [ho];exact hb),?_,fun t cs ht=>?_⟩
  ·refine ⟨hm.os.trans h.mod.os,hm.tape.trans h.mod.tape,hm.output.trans h.mod.output,Nat.le_trans h.mod.size hm.size,fun k hk hn=>?_⟩
   rw [hm.block k (Nat.lt_of_lt_of_le hk h.mod.size) (fun hc=>by have:=hlt _ (hS _ hc);omega)]
   exact h.mod.block k hk hn
  ·refine ht.mod hm (fun b hb hc=>by have:=hwr _ (hS _ hb);omega) fun b _ hb=>⟨by omega,fun hc=>?_⟩
   rw [ho] at hc
   have:=hwr _ hc;omega
 ·refine ⟨h.tw.mod hm (by simp) (by simp),h.rep.mod hm (by simp) (fun b hb hc=>⟨hc.1,fun e=>?_⟩),h.mod.trans hm.nil,fun t cs ht=>ht.mod hm (by simp) fun b hb hc=>⟨by omega,fun e=>?_⟩⟩
  ·rw [ho] at e;simp only [Option.some.injEq] at e;omega
  ·rw [ho] at e;simp only [Option.some.injEq] at e;omega
theorem TW.setL {w:World} {Tb Lb n i:Nat} {pre post:List Value} {nl:Bool} {lv lv':Value} (h:TW w Tb Lb n (pre++([.int .i64 0,.slice none 0 0,.bool nl,lv,.slice none 0 0]++post))) (hpre:pre.length=i*5) (hone:lv'.cells=#[lv']) (h1:lv'.oneCell'=true) :
  StOk w ⟨Lb,i*5+3,none⟩ lv'.cells.toList∧TW (putCells w ⟨Lb,i*5+3,none⟩ 0 lv'.cells.toList) Tb Lb n (pre++([.int .i64 0,.slice none 0 0,.bool nl,lv',.slice none 0 0]++post)) ∧
   Mod [Lb] w (putCells w ⟨Lb,i*5+3,none⟩ 0 lv'.cells.toList):=by
 rw [hone]
 have hput:Mod [Lb] w (putCells w ⟨Lb,i*5+3,none⟩ 0 [lv']):=Mod.put (by simp)
 refine ⟨qL h.lb (by simp;omega) (by simpa using h1),⟨h.tb.mod hput (by simpa using h.ne),?_,h.ne⟩,hput⟩
 have hp:=h.lb.put (o:=i*5+3) (vs:=[lv']) (by simp;omega)
 have:splice (pre++([.int .i64 0,.slice none 0 0,.bool nl,lv,.slice none 0 0]++post)) (i*5+3) [lv']=pre++([.int .i64 0,.slice none 0 0,.bool nl,lv',.slice none 0 0]++post):=by
  have e1 :∀x,pre++([.int .i64 0,.slice none 0 0,.bool nl,x,.slice none 0 0]++post)=(pre++[.int .i64 0,.slice none 0 0,.bool nl])++([x]++([.slice none 0 0]++post)):=fun x=>by simp
  rw [e1,e1]
  exact jY (old:=[lv]) (vs:=[lv']) (by simp only [List.length_append,List.length_cons,List.length_nil];omega) rfl
 rwa [this] at hp
end
def headA (t i off iv esz:Nat):List DI :=
 [nd ⟨some t,.fad (.tmp 3) 3,none⟩,nd ⟨some (t+1),.ld (.tmp t),none⟩,nd ⟨some (t+2),.iad (.tmp (t+1)) (.const (.int .i64 i)) 5,none⟩,nd ⟨some (t+3),.fad (.tmp (t+2)) 3,none⟩,nd ⟨some (t+4),.ld (.tmp (t+3)),none⟩,
 nd ⟨some (t+5),.mv (.tmp 0),none⟩,nd ⟨some (t+6),.nilc (.tmp (t+5)),none⟩,nd ⟨some (t+7),.fad (.tmp (t+6)) off,none⟩,nd ⟨some (t+8),.ld (.tmp (t+7)),none⟩,nd ⟨some (t+9),.mv (.tmp iv),none⟩,
 nd ⟨some (t+10),.iad (.tmp (t+8)) (.tmp (t+9)) esz,none⟩]
def appA (k:EK) (a i off iv esz:Nat):IC :=
 .seq (.drw (headA a i off iv esz++(k.dis (a+10) (a+11) 11++[nd ⟨some (a+11+k.n),.len (.tmp (a+4)),none⟩,⟨⟨some (a+12+k.n),.bslice 1 tzero [(0,5,.const (.agg tzero.toArray))],none⟩,true,[]⟩]))
 [⟨some (a+13+k.n),.append (.tmp (a+4)) (.tmp (a+12+k.n)) 5 88,none⟩,⟨some (a+14+k.n),.iad (.tmp (a+1)) (.const (.int .i64 i)) 5,none⟩,⟨some (a+15+k.n),.fad (.tmp (a+14+k.n)) 3,none⟩,
 ⟨none,.st (.tmp (a+15+k.n)) 1 (.tmp (a+13+k.n)),none⟩])
 (.blk [⟨some (a+16+k.n),.iad (.tmp (a+13+k.n)) (.tmp (a+11+k.n)) 5,none⟩,⟨none,.st (.tmp (a+16+k.n)) 5 (.tmp (k.val (a+11))),none⟩])
def kGQ (k:EK) (b i off iv esz:Nat):List DI :=
 [nd ⟨some b,.fad (.tmp 3) 3,none⟩,nd ⟨some (b+1),.ld (.tmp b),none⟩]++(headA (b+2) i off iv esz++(k.dis (b+12) (b+13) 13 ++
 [⟨⟨some (b+13+k.n),.bslice 1 tzero [(0,5,.tmp (k.val (b+13)))],none⟩,true,k.node 13⟩,
 ⟨⟨some (b+14+k.n),.append (.tmp (b+6)) (.tmp (b+13+k.n)) 5 88,none⟩,true,k.node 13++[13+k.n]⟩,
 ⟨⟨some (b+15+k.n),.iad (.tmp (b+1)) (.const (.int .i64 i)) 5,none⟩,false,k.node 13++[13+k.n,14+k.n]⟩,
 ⟨⟨some (b+16+k.n),.fad (.tmp (b+15+k.n)) 3,none⟩,false,k.node 13++[13+k.n,14+k.n]⟩]))
def appB (k:EK) (b i off iv esz:Nat):IC :=
 .drw (kGQ k b i off iv esz) [⟨none,.st (.tmp (b+16+k.n)) 1 (.tmp (b+14+k.n)),none⟩]
section
variable {P:Program}
theorem kFK {l:List DI} {R:World→World→Prop} {Φ:Nat→Value→World→Prop} {w0:World} {E:Sl→Prop} {r:List DI} {idx t i off iv esz Tb Lb n B base A ao len cap j:Nat} {σ:Sl} {lv:Value} (ht:4≤t) (hiv:iv<t)
 (h0:σ 0=.pointer (some ⟨B,base,none⟩)) (h3:σ 3=.pointer (some ⟨Tb,0,none⟩)) (hj:σ iv=.int .i64 j) (hi:i<n) (hjl:j<len)
 (c3 :∀w,R w0 w→w.cell? ⟨Tb,3,none⟩=some (.slice (some ⟨Lb,0,none⟩) n n)) (cl :∀w,R w0 w→w.cell? ⟨Lb,i*5+3,none⟩=some lv) (hc :∀w,R w0 w→w.cell? ⟨B,base+off,none⟩=some (.slice (some ⟨A,ao,none⟩) len cap))
 (h :∀σ',Ag t σ σ'→σ' (t+1)=.slice (some ⟨Lb,0,none⟩) n n→σ' (t+4)=lv→σ' (t+10)=.pointer (some ⟨A,ao+j*esz,none⟩)→walk P l R Φ NT w0 E (idx+11) r σ'):walk P l R Φ NT w0 E idx (headA t i off iv esz++r) σ:=by
 simp only [headA,nd,List.cons_append,List.nil_append]
 refine qK (v:=.pointer (some ⟨Tb,3,none⟩)) (fun w hw=>by simp only [RK.val?,ev,h3,Addr.kK,Nat.zero_add]) ?_
 refine qK (v:=.slice (some ⟨Lb,0,none⟩) n n) (fun w hw=>by simp only [RK.val?,ev,updo,upd_same,c3 w hw]) ?_
 refine qK (v:=.pointer (some ⟨Lb,i*5,none⟩)) (fun w hw=>by
 simp only [RK.val?,ev,updo,upd_same];rw [if_pos (by omega)];simp [Addr.kK]) ?_
 refine qK (v:=.pointer (some ⟨Lb,i*5+3,none⟩)) (fun w hw=>by simp only [RK.val?,ev,updo,upd_same,Addr.kK]) ?_
 refine qK (v:=lv) (fun w hw=>by simp only [RK.val?,ev,updo,upd_same,cl w hw]) ?_
 refine qK (v:=.pointer (some ⟨B,base,none⟩)) (fun w hw=>by
 simp only [RK.val?,ev,updo,upd,show (0:Nat)≠t by omega,show (0:Nat)≠t+1 by omega,show (0:Nat)≠t+2 by omega,show (0:Nat)≠t+3 by omega,show (0:Nat)≠t+4 by omega,if_false,h0]) ?_
 refine qK (v:=.pointer (some ⟨B,base,none⟩)) (fun w hw=>by simp only [RK.val?,ev,updo,upd_same]) ?_
 refine qK (v:=.pointer (some ⟨B,base+off,none⟩)) (fun w hw=>by simp only [RK.val?,ev,updo,upd_same,Addr.kK]) ?_
 refine qK (v:=.slice (some ⟨A,ao,none⟩) len cap) (fun w hw=>by simp only [RK.val?,ev,updo,upd_same,hc w hw]) ?_
 refine qK (v:=.int .i64 j) (fun w hw=>by
 simp only [RK.val?,ev,updo,upd,show iv≠t by omega,show iv≠t+1 by omega,show iv≠t+2 by omega,show iv≠t+3 by omega,show iv≠t+4 by omega,show iv≠t+5 by omega,show iv≠t+6 by omega,show iv≠t+7 by omega,
 show iv≠t+8 by omega,if_false,hj]) ?_
 refine qK (v:=.pointer (some ⟨A,ao+j*esz,none⟩)) (fun w hw=>by
 simp only [RK.val?,ev,updo,upd,show t+8≠t+9 by omega,if_false,if_true];rw [if_pos (by omega)];simp [Addr.kK]) ?_
 refine h _ (fun k hk=>?_) ?_ ?_ ?_
 ·simp only [updo,upd,show k≠t by omega,show k≠t+1 by omega,show k≠t+2 by omega,show k≠t+3 by omega,show k≠t+4 by omega,show k≠t+5 by omega,show k≠t+6 by omega,show k≠t+7 by omega,
 show k≠t+8 by omega,show k≠t+9 by omega,show k≠t+10 by omega,if_false]
 ·simp only [updo,upd,show t+1≠t+2 by omega,show t+1≠t+3 by omega,show t+1≠t+4 by omega,show t+1≠t+5 by omega,show t+1≠t+6 by omega,show t+1≠t+7 by omega,
 show t+1≠t+8 by omega,show t+1≠t+9 by omega,show t+1≠t+10 by omega,if_false,if_true]
 ·simp only [updo,upd,show t+4≠t+5 by omega,show t+4≠t+6 by omega,show t+4≠t+7 by omega,show t+4≠t+8 by omega,show t+4≠t+9 by omega,show t+4≠t+10 by omega,if_false,if_true]
 ·simp only [updo,upd_same]
theorem LRaw.len {w:World} {n0:Nat} {lv:Value} {css:List (List Value)} (h:LRaw w n0 lv css) :∃b c,lv=.slice b css.length c:=by
 rcases h.sl with ⟨rfl,rfl⟩|⟨BA,cap,rest,h1,-⟩
 ·exact ⟨_,_,rfl⟩
 ·exact ⟨_,_,h1⟩
theorem LRaw.one {w:World} {n0:Nat} {lv:Value} {css:List (List Value)} (h:LRaw w n0 lv css):lv.cells=#[lv]∧lv.oneCell'=true:=by
 obtain ⟨b,c,rfl⟩:=h.len
 exact ⟨rfl,rfl⟩
theorem EK.n_pos (k:EK):1≤k.n:=by cases k with|num c=>cases c<;>simp [EK.n]|_=>simp [EK.n]
theorem EK.kEK {k:EK} {idx j:Nat} (h:j∈k.node idx):idx≤j∧j<idx+k.n:=by
 cases k with
 | num c=>simp [EK.node] at h
 | str=>simp only [EK.node,List.mem_singleton] at h;subst h;simp [EK.n]
 | tell f=>simp only [EK.node,List.mem_singleton] at h;subst h;simp [EK.n]
theorem EK.kKV {k:EK} {p e idx j:Nat} (h:j∈k.node idx) :∃d,(k.dis p e idx)[j-idx]?=some d∧d.node=true∧d.ri.guard=none∧d.ri.dst=some (e+(j-idx)):=by
 cases k with
 | num c=>simp [EK.node] at h
 | str=>simp only [EK.node,List.mem_singleton] at h;subst h;simp [EK.dis]
 | tell f=>simp only [EK.node,List.mem_singleton] at h;subst h;simp [EK.dis]
theorem EK.yQ (k:EK) (p e idx:Nat):(k.dis p e idx).length=k.n:=by
 cases k with|num c=>cases c<;>rfl|_=>rfl
def BS (n0:Nat) (es:Value→Prop) (v:Value) (w:World):Prop :=∃sb cs,v=.slice (some ⟨sb,0,none⟩) 1 1∧n0≤sb∧Blk w sb cs∧cs.length=5∧es (.agg cs.toArray)
theorem kCX {σ:Sl} {w:World} {x:Operand} {cs:List Value} {n0:Nat} {K:Value→World→Prop} (hx:ev σ x=.agg cs.toArray) (h5:cs.length=5) (hn:n0≤w.heap.size)
  (hK :∀v w',BS n0 (fun v=>v=.agg cs.toArray) v w'→Mod [] w w'→K v w'):(RK.bslice 1 tzero [(0,5,x)]).run P σ w K:=by
 have hf:zW (zrep 1 tzero) [(0,5,Value.agg cs.toArray)]=some cs:=by
  have e:zrep 1 tzero=tzero:=by simp [zrep]
  rw [e]
  have ec:(Value.agg cs.toArray).cells=cs.toArray:=rfl
  simp only [zW]
  rw [if_pos ⟨by rw [ec];simp [h5],by simp [tzero]⟩,ec]
  simp [splice,h5,tzero]
 simp only [RK.run,List.map_cons,List.map_nil,hx,hf]
 intro T
 exact hK _ _ ⟨w.heap.size,cs,rfl,hn,Blk.new _ _ _,h5,rfl⟩ (Mod.alloc _ _ _)
theorem appA_wp {k:EK} {T:List GV→Prop} (hk:k.Ok P T) {a i off iv esz Tb Lb n B base A ao len cap j:Nat} {O:List Nat} {pre post:List Value} {nl:Bool} {lv:Value} {ts:List TR} {tcs:List (List Value)} {g:GV} {gcs:List Value}
  {σ:Sl} {w0 w:World} {Q:Exit→Sl→World→Prop} (ht:4≤a) (hiv:iv<a) (h0:σ 0=.pointer (some ⟨B,base,none⟩)) (h3:σ 3=.pointer (some ⟨Tb,0,none⟩)) (hj:σ iv=.int .i64 j) (hi:i<n) (hjl:j<len)
  (hls:LS w0 w Tb Lb n pre post nl lv ts tcs) (hpre:pre.length=i*5) (hc:w.cell? ⟨B,base+off,none⟩=some (.slice (some ⟨A,ao,none⟩) len cap))
  (hg:k.ty T g) (hr:Rep O w g gcs) (hcs:Cells w ⟨A,ao+j*esz,none⟩ gcs) (hlen:tcs.length≤2147483647)
  (hQ :∀σ' w' lv' cs,Ag a σ σ'→LS w0 w' Tb Lb n pre post nl lv' (ts++[g.told]) (tcs++[cs])→Q .normal σ' w'):wpC P (appA k a i off iv esz) Q σ w:=by
 have hn:=k.n_pos
 have hls':LS w0 w.drew Tb Lb n pre post nl lv ts tcs:=hls.same (Mod.drew _ _)
 obtain ⟨lb,lc,hlv⟩:=hls.raw.len
 have hcl :∀w1,Mod [] w.drew w1→w1.cell? ⟨Lb,i*5+3,none⟩=some lv:=fun w1 hm=>by
  rw [(hls'.same hm).tw.lb.cell]
  rw [←hpre];simp
 simp only [appA,wpC]
 refine ⟨fun w w'=>Mod [] w w',fun jj v w1=>if jj=12+k.n then BS w.heap.size (fun v=>v=.agg tzero.toArray) v w1 else k.Phi w.heap.size g v w1,NT,fun w=>Mod.refl _ w,fun _ _ _=>Mod.trans,fun jj v w1 w2 h hm=>?_,fun _=>trivial,?_⟩
 ·dsimp only at h hm ⊢
  split at h
  ·rename_i hjj
   rw [if_pos hjj]
   obtain ⟨sb,cs,h1,h2,h3,h4⟩:=h
   exact ⟨sb,cs,h1,h2,h3.mod hm (by simp),h4⟩
  ·rename_i hjj
   rw [if_neg hjj];exact h.mod hm (by simp)
 refine kFK (R:=fun w w'=>Mod [] w w') ht hiv h0 h3 hj hi hjl (fun w1 hm=>(hls'.same hm).tw.tb.cell 3) hcl (fun w1 hm=>zH (w:=w.drew) hc hm (by simp)) fun σ1 a1 s1 s4 s10=>?_
 refine EK.kND (S:=[]) hk (by omega) s10 (fun w1 hm=>hm) (fun _ _ h=>h) (by simp) hg (hr.fresh (Mod.drew [] w) (by simp) (fun x hx=>.inl hx)) (hcs.mod (Mod.drew [] w) (.inr (by simp))) (.inr trivial) (fun jj v w1 hjj=>?_) fun σ2 a2 hval=>?_
 ·have:=EK.kEK hjj
  rw [if_neg (by omega)];exact Iff.rfl
 refine qK (v:=.int .i64 tcs.length) (fun w1 _=>by simp only [RK.val?,ev,a2 (a+4) (by omega),s4,hlv]) ?_
 refine xX (fun w1 hm _=>?_) fun u hu=>?_
 ·refine kCX (cs:=tzero) (n0:=w.heap.size) rfl rfl hm.size fun v w2 hbs hm2=>?_
  refine ⟨hm2,?_⟩
  rw [if_pos (by omega)];exact hbs
 simp only [walk]
 intro w1 hm hkn
 have hm1:Mod [] w w1:=(Mod.drew _ _).trans hm
 have hls1:=hls.same hm1
 have fr :∀q,q<a+11+k.n→(updo (updo σ2 (some (a+11+k.n)) (.int .i64 tcs.length)) (some (a+12+k.n)) u) q=σ2 q:=fun q hq=>by
  simp only [updo,upd,show q≠a+12+k.n by omega,show q≠a+11+k.n by omega,if_false]
 have hkv:k.val (a+11)<a+11+k.n:=by unfold EK.val;omega
 have hlen0:(headA a i off iv esz).length=11:=rfl
 obtain ⟨cs,hv,htree⟩:=hval w1 fun jj hjj=>by
  obtain ⟨d,hd1,hd2,hd3,hd4⟩:=EK.kKV (p:=a+10) (e:=a+11) hjj
  have hlt:=EK.kEK hjj
  have:=hkn jj (by simp [headA,EK.yQ];omega) d (by
   rw [List.getElem?_append_right (by omega),hlen0,List.getElem?_append_left (by rw [EK.yQ];omega)];exact hd1) hd2 (by rw [hd3];rfl) _ hd4
  rwa [fr _ (by omega)] at this
 have hbs:=hkn (12+k.n) (by simp [headA,EK.yQ];omega) ⟨⟨some (a+12+k.n),.bslice 1 tzero [(0,5,.const (.agg tzero.toArray))],none⟩,true,[]⟩ (by
  rw [List.getElem?_append_right (by omega),hlen0,List.getElem?_append_right (by rw [EK.yQ];omega),EK.yQ,show 12+k.n-11-k.n=1 by omega];rfl) rfl rfl _ rfl
 dsimp only at hbs
 rw [if_pos rfl] at hbs
 simp only [updo,upd_same] at hbs
 obtain ⟨sb,es,rfl,hsb,hblk,h5,hes⟩:=hbs
 have hes':es=tzero:=by
  have:=congrArg (fun v=>match v with|Value.agg a=>a.toList|_=>[]) hes
  simpa using this
 subst hes'
 simp only [wpR,RI.wp,gOk,if_true]
 refine kBU (lv:=lv) (css:=tcs) (n0:=w0.heap.size) ((fr (a+4) (by omega)).trans ((a2 _ (by omega)).trans s4)) hls1.raw hls1.mod.size (by simp only [ev,updo,upd_same]) hblk rfl (by simp [tzero,Value.oneCell'])
  hlen fun lv' w2 hraw2 hown=>?_
 obtain ⟨htw2,hrep2,hm02,htree2⟩:=hls1.appended (wr:=w) (hown.imp And.left id) (fun b hb=>(hls.raw.own hb).2) hls.mod.size
 obtain ⟨o1,o2⟩:=hraw2.one
 obtain ⟨k1,k2,k3⟩:=htw2.setL hpre o1 o2
 have b1 :∀q,q<a+11+k.n →∀x y z,(updo (updo (updo (updo (updo σ2 (some (a+11+k.n)) (.int .i64 tcs.length)) (some (a+12+k.n)) (.slice (some ⟨sb,0,none⟩) 1 1)) (some (a+13+k.n)) x) (some (a+14+k.n)) y) (some (a+15+k.n)) z) q=σ2 q:=fun q hq x y z=>by
  simp only [updo,upd,show q≠a+11+k.n by omega,show q≠a+12+k.n by omega,show q≠a+13+k.n by omega,show q≠a+14+k.n by omega,show q≠a+15+k.n by omega,if_false]
 have st1:σ2 (a+1)=.slice (some ⟨Lb,0,none⟩) n n:=by rw [a2 _ (by omega),s1]
 simp only [RK.run,ev]
 have c1 :∀x,updo (updo (updo σ2 (some (a+11+k.n)) (.int .i64 tcs.length)) (some (a+12+k.n)) (.slice (some ⟨sb,0,none⟩) 1 1)) (some (a+13+k.n)) x (a+1)=.slice (some ⟨Lb,0,none⟩) n n:=fun x=>by
  simp only [updo,upd,show a+1≠a+11+k.n by omega,show a+1≠a+12+k.n by omega,show a+1≠a+13+k.n by omega,if_false,st1]
 simp only [c1]
 refine ⟨by omega,by omega,?_⟩
 simp only [updo,upd_same,Int.toNat_natCast,Addr.kK,Nat.zero_add]
 have c13 :∀x y z q,upd (upd (upd q (a+13+k.n) x) (a+14+k.n) y) (a+15+k.n) z (a+13+k.n)=x:=fun x y z q=>by
  simp only [upd,show a+13+k.n≠a+14+k.n by omega,show a+13+k.n≠a+15+k.n by omega,if_false,if_true]
 simp only [c13]
 refine ⟨by rw [o1];rfl,k1,?_⟩
 simp only [kF,c13]
 have hraw3:=hraw2.mod k3 (fun b hb=>by
  have:=(hraw2.own hb).1;have:=hls.llb;simp;omega)
 obtain ⟨BA,cap',rfl,hBA,q1,q2,q3⟩:=hraw3.setLast htree.five htree.oneCell
 have c11 :∀x y z,upd (upd (upd (upd (upd σ2 (a+11+k.n) (.int .i64 tcs.length)) (a+12+k.n) x) (a+13+k.n) y) (a+14+k.n) z) (a+15+k.n) (.pointer (some ⟨Lb,i*5+3,none⟩)) (a+11+k.n)=.int .i64 tcs.length:=fun x y z=>by
  simp only [upd,show a+11+k.n≠a+12+k.n by omega,show a+11+k.n≠a+13+k.n by omega,show a+11+k.n≠a+14+k.n by omega,show a+11+k.n≠a+15+k.n by omega,if_false,if_true]
 simp only [c11]
 refine ⟨by omega,by omega,?_⟩
 simp only [Int.toNat_natCast,Addr.kK,Nat.zero_add]
 have cv :∀x y z u,upd (upd (upd (upd (upd (upd σ2 (a+11+k.n) (.int .i64 tcs.length)) (a+12+k.n) x) (a+13+k.n) y) (a+14+k.n) z) (a+15+k.n) (.pointer (some ⟨Lb,i*5+3,none⟩))) (a+16+k.n) u (k.val (a+11))=.agg cs.toArray:=fun x y z u=>by
  rw [←hv]
  simp only [upd,show k.val (a+11)≠a+11+k.n by omega,show k.val (a+11)≠a+12+k.n by omega,show k.val (a+11)≠a+13+k.n by omega,show k.val (a+11)≠a+14+k.n by omega,show k.val (a+11)≠a+15+k.n by omega,
   show k.val (a+11)≠a+16+k.n by omega,if_false]
 simp only [cv]
 have ec:(Value.agg cs.toArray).cells=cs.toArray:=rfl
 rw [ec]
 refine ⟨by simp [htree.five],by simpa using q1,?_⟩
 have hok:own (.slice (some ⟨BA,0,none⟩) (tcs.length+1) cap')=some BA:=rfl
 have hLB:Lb<w0.heap.size:=hls.llb
 have hTB:Tb<w0.heap.size:=hls.ltb
 refine hQ _ _ (.slice (some ⟨BA,0,none⟩) (tcs.length+1) cap') cs (fun q hq=>?_) ⟨(k2.mod q3 (by simp;omega) (by simp;omega)),q2,?_,?_,hls.ltb,hls.llb⟩
 ·simp only [upd,show q≠a+11+k.n by omega,show q≠a+12+k.n by omega,show q≠a+13+k.n by omega,show q≠a+14+k.n by omega,show q≠a+15+k.n by omega,show q≠a+16+k.n by omega,if_false]
  rw [a2 _ (by omega),a1 _ hq]
 ·have hx:jN (fun b=>w0.heap.size≤b∧own (.slice (some ⟨BA,0,none⟩) (tcs.length+1) cap')≠some b) w2 (ts++[g.told]) (tcs++[cs]):=hrep2.append (.cons (htree2 _ _ htree) .nil)
  refine (hx.mod k3 (fun b hb hc=>?_) (fun _ _ h=>h)).mod q3 (fun b hb hc=>?_) (fun _ _ h=>h)
  ·simp only [List.mem_singleton] at hb;omega
  ·simp only [List.mem_singleton] at hb;exact hc.2 (by rw [hok,hb])
 ·refine ⟨q3.os.trans (k3.os.trans hm02.os),q3.tape.trans (k3.tape.trans hm02.tape),q3.output.trans (k3.output.trans hm02.output),Nat.le_trans hm02.size (Nat.le_trans k3.size q3.size),fun b hb hnb=>?_⟩
  rw [q3.block b (Nat.lt_of_lt_of_le hb (Nat.le_trans hm02.size k3.size)) (by simp;omega),k3.block b (Nat.lt_of_lt_of_le hb hm02.size) hnb]
  exact hm02.block b hb hnb
end
def BT (n0:Nat) (t:TR) (v:Value) (w:World):Prop :=∃sb cs,v=.slice (some ⟨sb,0,none⟩) 1 1∧n0≤sb∧Blk w sb cs∧RepT (fun b=>n0≤b) w t cs
section
variable {P:Program}
theorem BT.mod {n0:Nat} {t:TR} {v:Value} {w w':World} {S:List Nat} (h:BT n0 t v w) (hm:Mod S w w') (hS :∀b∈S,b<n0):BT n0 t v w':=by
 obtain ⟨sb,cs,h1,h2,h3,h4⟩:=h
 exact ⟨sb,cs,h1,h2,h3.mod hm (fun hc=>by have:=hS _ hc;omega),h4.mod hm (fun b hb hc=>by have:=hS b hb;omega) fun _ _ h=>h⟩
theorem kLW {k:EK} {b i off iv esz jj:Nat} (h:jj∈k.node 13) :∃d,(kGQ k b i off iv esz)[jj]?=some d∧d.node=true∧d.ri.guard=none∧d.ri.dst=some (b+13+(jj-13)):=by
 obtain ⟨d,hd1,hd2⟩:=EK.kKV (p:=b+12) (e:=b+13) h
 have hlt:=EK.kEK h
 have hlen0:(headA (b+2) i off iv esz).length=11:=rfl
 refine ⟨d,?_,hd2⟩
 unfold kGQ
 rw [List.getElem?_append_right (by simp;omega),List.getElem?_append_right (by rw [hlen0];simp;omega),hlen0,List.getElem?_append_left (by rw [EK.yQ];simp;omega)]
 simp only [List.length_cons,List.length_nil]
 rw [show jj-(0+1+1)-11=jj-13 by omega];exact hd1
theorem kFL {k:EK} {b i off iv esz jj:Nat}:(kGQ k b i off iv esz)[13+k.n+jj]?=([⟨⟨some (b+13+k.n),.bslice 1 tzero [(0,5,.tmp (k.val (b+13)))],none⟩,true,k.node 13⟩,
 ⟨⟨some (b+14+k.n),.append (.tmp (b+6)) (.tmp (b+13+k.n)) 5 88,none⟩,true,k.node 13++[13+k.n]⟩,
 ⟨⟨some (b+15+k.n),.iad (.tmp (b+1)) (.const (.int .i64 i)) 5,none⟩,false,k.node 13++[13+k.n,14+k.n]⟩,
 ⟨⟨some (b+16+k.n),.fad (.tmp (b+15+k.n)) 3,none⟩,false,k.node 13++[13+k.n,14+k.n]⟩]:List DI)[jj]?:=by
 have hlen0:(headA (b+2) i off iv esz).length=11:=rfl
 unfold kGQ
 rw [List.getElem?_append_right (by simp;omega),List.getElem?_append_right (by rw [hlen0];simp;omega),hlen0,List.getElem?_append_right (by rw [EK.yQ];simp;omega),EK.yQ]
 simp only [List.length_cons,List.length_nil]
 rw [show 13+k.n+jj-(0+1+1)-11-k.n=jj by omega]
theorem kIA (k:EK) (b i off iv esz:Nat):(kGQ k b i off iv esz).length=17+k.n:=by
 have hlen0:(headA (b+2) i off iv esz).length=11:=rfl
 unfold kGQ
 simp only [List.length_append,List.length_cons,List.length_nil,hlen0,EK.yQ];omega
theorem kIB {k:EK} {T:List GV→Prop} (hk:k.Ok P T) {a i off iv esz Tb Lb n B base A ao len cap j:Nat} {O S:List Nat} {pre post:List Value} {nl:Bool} {lv:Value} {ts:List TR} {tcs:List (List Value)} {g:GV} {gcs:List Value}
  {σ:Sl} {w0 w:World} {Q:Exit→Sl→World→Prop} {R:World→World→Prop} {App:Value→World→Prop} (ht:4≤a) (hiv:iv<a) (h0:σ 0=.pointer (some ⟨B,base,none⟩)) (h3:σ 3=.pointer (some ⟨Tb,0,none⟩)) (hj:σ iv=.int .i64 j) (hi:i<n) (hjl:j<len)
  (hls:LS w0 w Tb Lb n pre post nl lv ts tcs) (hpre:pre.length=i*5) (hc:w.cell? ⟨B,base+off,none⟩=some (.slice (some ⟨A,ao,none⟩) len cap)) (hB:B<w0.heap.size) (hA:A<w0.heap.size)
  (hg:k.ty T g) (hr:Rep O w g gcs) (hcs:Cells w ⟨A,ao+j*esz,none⟩ gcs)
  (hS :∀b∈S,b∈O∧own lv=some b)
  (hRr :∀w,R w w) (hRt :∀u v w,R u v→R v w→R u w) (hRS :∀w1 w2,R w1 w2→Mod S w1 w2) (hR0 :∀w1 w2,Mod [] w1 w2→R w1 w2) (hAst :∀v w1 w2,App v w1→R w1 w2→App v w2)
  (happ :∀(σ:Sl) (x y:Operand) (w1:World),R w.drew w1→ev σ x=lv→BT w.heap.size g.told (ev σ y) w1→(RK.append x y 5 88).run P σ w1 fun v w'=>R w1 w'∧App v w')
  (hfin :∀w1 v,R w.drew w1→App v w1 →∃cs,LRaw w1 w0.heap.size v (tcs++[cs])∧(∀b,own v=some b→own lv=some b∨w.heap.size≤b)∧RepT (fun b=>w0.heap.size≤b∧own v≠some b) w1 g.told cs∧jN (fun b=>w0.heap.size≤b∧own v≠some b) w1 ts tcs)
  (hQ :∀σ' w' lv' cs,Ag a σ σ'→LS w0 w' Tb Lb n pre post nl lv' (ts++[g.told]) (tcs++[cs])→Q .normal σ' w'):wpC P (appB k a i off iv esz) Q σ w:=by
 have hn:=k.n_pos
 have hown :∀b∈S,w0.heap.size≤b∧b<w.heap.size:=fun b hb=>hls.raw.own (hS b hb).2
 have hTb:=hls.ltb
 have hLb:=hls.llb
 have nT:Tb ∉ S:=fun hx=>by have:=hown _ hx;omega
 have nL:Lb ∉ S:=fun hx=>by have:=hown _ hx;omega
 have nB:B ∉ S:=fun hx=>by have:=hown _ hx;omega
 have nA :∀x∈S,x≠A:=fun x hx e=>by have:=hown _ hx;omega
 have hls':LS w0 w.drew Tb Lb n pre post nl lv ts tcs:=hls.same (Mod.drew _ _)
 have htw :∀w1,R w.drew w1→TW w1 Tb Lb n (pre++([.int .i64 0,.slice none 0 0,.bool nl,lv,.slice none 0 0]++post)):=fun w1 hm=>hls'.tw.mod (hRS _ _ hm) nT nL
 have c3 :∀w1,R w.drew w1→w1.cell? ⟨Tb,3,none⟩=some (.slice (some ⟨Lb,0,none⟩) n n):=fun w1 hm=>(htw w1 hm).tb.cell 3
 have hcl :∀w1,R w.drew w1→w1.cell? ⟨Lb,i*5+3,none⟩=some lv:=fun w1 hm=>by
  rw [(htw w1 hm).lb.cell]
  rw [←hpre];simp
 simp only [appB,wpC]
 refine ⟨R,fun jj v w1=>if jj=13+k.n then BT w.heap.size g.told v w1 else if jj=14+k.n then App v w1 else k.Phi w.heap.size g v w1,NT,hRr,hRt,fun jj v w1 w2 h hm=>?_,fun _=>trivial,?_⟩
 ·dsimp only at h ⊢
  split at h
  ·rename_i hjj
   rw [if_pos hjj];exact h.mod (hRS _ _ hm) fun b hb=>(hown b hb).2
  ·rename_i hjj
   rw [if_neg hjj]
   split at h
   ·rename_i hjj2
    rw [if_pos hjj2];exact hAst _ _ _ h hm
   ·rename_i hjj2
    rw [if_neg hjj2];exact h.mod (hRS _ _ hm) fun b hb=>(hown b hb).2
 have hunf :∀(l:List DI) E,walk P l R (fun jj v w1=>if jj=13+k.n then BT w.heap.size g.told v w1 else if jj=14+k.n then App v w1 else k.Phi w.heap.size g v w1) NT w.drew E 0 (kGQ k a i off iv esz) σ =
   walk P l R (fun jj v w1=>if jj=13+k.n then BT w.heap.size g.told v w1 else if jj=14+k.n then App v w1 else k.Phi w.heap.size g v w1) NT w.drew E 0 ([nd ⟨some a,.fad (.tmp 3) 3,none⟩,nd ⟨some (a+1),.ld (.tmp a),none⟩]++(headA (a+2) i off iv esz++(k.dis (a+12) (a+13) 13 ++
   [⟨⟨some (a+13+k.n),.bslice 1 tzero [(0,5,.tmp (k.val (a+13)))],none⟩,true,k.node 13⟩,
    ⟨⟨some (a+14+k.n),.append (.tmp (a+6)) (.tmp (a+13+k.n)) 5 88,none⟩,true,k.node 13++[13+k.n]⟩,
    ⟨⟨some (a+15+k.n),.iad (.tmp (a+1)) (.const (.int .i64 i)) 5,none⟩,false,k.node 13++[13+k.n,14+k.n]⟩,
    ⟨⟨some (a+16+k.n),.fad (.tmp (a+15+k.n)) 3,none⟩,false,k.node 13++[13+k.n,14+k.n]⟩]))) σ:=fun _ _=>rfl
 rw [hunf]
 simp only [nd,List.cons_append,List.nil_append]
 refine qK (v:=.pointer (some ⟨Tb,3,none⟩)) (fun w hw=>by simp only [RK.val?,ev,h3,Addr.kK,Nat.zero_add]) ?_
 refine qK (v:=.slice (some ⟨Lb,0,none⟩) n n) (fun w hw=>by simp only [RK.val?,ev,updo,upd_same,c3 w hw]) ?_
 have e0 :∀q,q<a→(updo (updo σ (some a) (.pointer (some ⟨Tb,3,none⟩))) (some (a+1)) (.slice (some ⟨Lb,0,none⟩) n n)) q=σ q:=fun q hq=>by
  simp only [updo,upd,show q≠a by omega,show q≠a+1 by omega,if_false]
 have e1:(updo (updo σ (some a) (.pointer (some ⟨Tb,3,none⟩))) (some (a+1)) (.slice (some ⟨Lb,0,none⟩) n n)) (a+1)=.slice (some ⟨Lb,0,none⟩) n n:=by simp only [updo,upd_same]
 generalize (updo (updo σ (some a) (.pointer (some ⟨Tb,3,none⟩))) (some (a+1)) (.slice (some ⟨Lb,0,none⟩) n n))=σx at e0 e1
 refine kFK (idx:=2) (t:=a+2) (by omega) (by omega) ((e0 0 (by omega)).trans h0) ((e0 3 (by omega)).trans h3) ((e0 iv hiv).trans hj) hi hjl c3 hcl (fun w1 hm=>zH (w:=w.drew) hc (hRS _ _ hm) nB) fun σ1 a1 s1 s4 s10=>?_
 refine EK.kND (S:=S) (p:=a+12) (e:=a+13) (idx:=13) hk (by omega) s10 (fun w1 hm=>hRS _ _ hm) hR0 (fun x hx=>⟨(hS x hx).1,nA x hx⟩) hg (hr.fresh (Mod.drew [] w) (by simp) (fun x hx=>.inl hx)) (hcs.mod (Mod.drew [] w) (.inr (by simp))) (.inr trivial) (fun jj v w1 hjj=>?_) fun σ2 a2 hval=>?_
 ·have:=EK.kEK hjj
  rw [if_neg (by omega),if_neg (by omega)];exact Iff.rfl
 have hkv:k.val (a+13)<a+13+k.n:=by unfold EK.val;omega
 have hlen0:(headA (a+2) i off iv esz).length=11:=rfl
 -- what a node of the element is in the whole list
 have hnode :∀(js:List Nat) (σ3:Sl) (w1:World),(∀q,q<a+13+k.n→σ3 q=σ2 q)→(∀jj∈k.node 13,jj∈js) →
   known (kGQ k a i off iv esz) (fun jj v w1=>if jj=13+k.n then BT w.heap.size g.told v w1 else if jj=14+k.n then App v w1 else k.Phi w.heap.size g v w1) js σ3 w1 →
   ∃cs,σ2 (k.val (a+13))=.agg cs.toArray∧RepT (fun b=>w.drew.heap.size≤b) w1 g.told cs:=fun js σ3 w1 h3 hjs hkn=>hval w1 fun jj hjj=>by
  obtain ⟨d,hd1,hd2,hd3,hd4⟩:=kLW (b:=a) (i:=i) (off:=off) (iv:=iv) (esz:=esz) hjj
  have hlt:=EK.kEK hjj
  have:=hkn jj (hjs jj hjj) d hd1 hd2 (by rw [hd3];rfl) _ hd4
  rwa [h3 _ (by omega)] at this
 refine xX (fun w1 hm hkn=>?_) fun u hu=>?_
 ·obtain ⟨cs,hv,htree⟩:=hnode _ σ2 w1 (fun _ _=>rfl) (fun jj hjj=>hjj) hkn
  refine kCX (cs:=cs) (n0:=w.heap.size) hv htree.five (hRS _ _ hm).size fun v w2 hbs hm2=>?_
  obtain ⟨sb,cs',h1,h2,h3,h4,h5⟩:=hbs
  have hes':cs'=cs:=by
   have:=congrArg (fun v=>match v with|Value.agg a=>a.toList|_=>[]) h5
   simpa using this
  subst hes'
  refine ⟨hR0 _ _ hm2,?_⟩
  rw [if_pos (by omega)]
  exact ⟨sb,cs',h1,h2,h3,htree.mod hm2 (by simp) fun _ _ h=>h⟩
 refine xX (fun w1 hm hkn=>?_) fun lv' hlv'=>?_
 ·have hbs:=hkn (13+k.n) (by simp) _ (kFL (jj:=0)) rfl rfl _ rfl
  dsimp only at hbs
  rw [if_pos rfl] at hbs
  have:=happ (updo σ2 (some (a+13+k.n)) u) (.tmp (a+6)) (.tmp (a+13+k.n)) w1 hm (by
   simp only [ev,updo,upd,show a+6≠a+13+k.n by omega,if_false];rw [a2 _ (by omega)];exact s4) hbs
  refine vO this fun v w2 ⟨k1,k2⟩=>⟨k1,?_⟩
  rw [if_neg (by omega),if_pos (by omega)];exact k2
 have st1:σ2 (a+1)=.slice (some ⟨Lb,0,none⟩) n n:=by rw [a2 _ (by omega),a1 _ (by omega)];exact e1
 refine qK (v:=.pointer (some ⟨Lb,i*5,none⟩)) (fun w1 _=>by
  simp only [RK.val?,ev,updo,upd,show a+1≠a+13+k.n by omega,show a+1≠a+14+k.n by omega,if_false,st1];rw [if_pos (by omega)];simp [Addr.kK]) ?_
 refine qK (v:=.pointer (some ⟨Lb,i*5+3,none⟩)) (fun w1 _=>by simp only [RK.val?,ev,updo,upd_same,Addr.kK]) ?_
 simp only [walk]
 intro w1 hm hkn
 have hap:=hkn (13+k.n+1) (by rw [List.mem_range,kIA];omega) _ (kFL (jj:=1)) rfl rfl _ rfl
 dsimp only at hap
 rw [if_neg (by omega),if_pos (by omega)] at hap
 have f14:updo (updo (updo (updo σ2 (some (a+13+k.n)) u) (some (a+14+k.n)) lv') (some (a+15+k.n)) (.pointer (some ⟨Lb,i*5,none⟩))) (some (a+16+k.n)) (.pointer (some ⟨Lb,i*5+3,none⟩)) (a+14+k.n)=lv':=by
  simp only [updo,upd,show a+14+k.n≠a+15+k.n by omega,show a+14+k.n≠a+16+k.n by omega,if_false,if_true]
 rw [f14] at hap
 obtain ⟨cs,hraw,hown2,htree,hrep⟩:=hfin w1 lv' hm hap
 obtain ⟨o1,o2⟩:=hraw.one
 obtain ⟨k1,k2,k3⟩:=(htw w1 hm).setL hpre o1 o2
 have f16:updo (updo (updo (updo σ2 (some (a+13+k.n)) u) (some (a+14+k.n)) lv') (some (a+15+k.n)) (.pointer (some ⟨Lb,i*5,none⟩))) (some (a+16+k.n)) (.pointer (some ⟨Lb,i*5+3,none⟩)) (a+16+k.n)=.pointer (some ⟨Lb,i*5+3,none⟩):=by
  simp only [updo,upd_same]
 simp only [wpR,RI.wp,gOk,if_true,RK.run,ev,f14,f16]
 refine ⟨by rw [o1];rfl,k1,?_⟩
 have hge :∀b,own lv'=some b→w0.heap.size≤b:=fun b hb=>(hraw.own hb).1
 have hmS:=hRS _ _ hm
 refine hQ _ _ lv' cs (fun q hq=>?_) ⟨k2,hraw.mod k3 (fun b hb=>by have:=hge b hb;simp;omega),?_,?_,hls.ltb,hls.llb⟩
 ·simp only [updo,upd,show q≠a+13+k.n by omega,show q≠a+14+k.n by omega,show q≠a+15+k.n by omega,show q≠a+16+k.n by omega,if_false]
  rw [a2 _ (by omega),a1 _ (by omega),e0 _ hq]
 ·exact (hrep.append (.cons htree .nil)).mod k3 (fun b hb hx=>by simp only [List.mem_singleton] at hb;omega) (fun _ _ h=>h)
 ·have hm0:=hls'.mod
  refine ⟨k3.os.trans (hmS.os.trans hm0.os),k3.tape.trans (hmS.tape.trans hm0.tape),k3.output.trans (hmS.output.trans hm0.output),Nat.le_trans hm0.size (Nat.le_trans hmS.size k3.size),fun b hb hnb=>?_⟩
  rw [k3.block b (Nat.lt_of_lt_of_le hb (Nat.le_trans hm0.size hmS.size)) hnb,hmS.block b (Nat.lt_of_lt_of_le hb hm0.size) (fun hx=>by have:=hown _ hx;omega)]
  exact hm0.block b hb hnb
end
section
variable {P:Program}
theorem appB_wp {k:EK} {T:List GV→Prop} (hk:k.Ok P T) {a i off iv esz Tb Lb n B base A ao len cap j:Nat} {O:List Nat} {pre post:List Value} {nl:Bool} {lv:Value} {ts:List TR} {tcs:List (List Value)} {g:GV} {gcs:List Value}
  {σ:Sl} {w0 w:World} {Q:Exit→Sl→World→Prop} (ht:4≤a) (hiv:iv<a) (h0:σ 0=.pointer (some ⟨B,base,none⟩)) (h3:σ 3=.pointer (some ⟨Tb,0,none⟩)) (hj:σ iv=.int .i64 j) (hi:i<n) (hjl:j<len)
  (hls:LS w0 w Tb Lb n pre post nl lv ts tcs) (hpre:pre.length=i*5) (hc:w.cell? ⟨B,base+off,none⟩=some (.slice (some ⟨A,ao,none⟩) len cap)) (hB:B<w0.heap.size) (hA:A<w0.heap.size)
  (hg:k.ty T g) (hr:Rep O w g gcs) (hcs:Cells w ⟨A,ao+j*esz,none⟩ gcs) (hlen:tcs.length≤2147483647) (hO :∀b,own lv=some b→b∈O)
  (hQ :∀σ' w' lv' cs,Ag a σ σ'→LS w0 w' Tb Lb n pre post nl lv' (ts++[g.told]) (tcs++[cs])→Q .normal σ' w'):wpC P (appB k a i off iv esz) Q σ w:=by
 have hnw:w0.heap.size≤w.heap.size:=hls.mod.size
 have hls':LS w0 w.drew Tb Lb n pre post nl lv ts tcs:=hls.same (Mod.drew _ _)
 by_cases hin :∃BA c,lv=.slice (some ⟨BA,0,none⟩) tcs.length c∧tcs.length+1≤c
 ·obtain ⟨BA,c,rfl,hc1⟩:=hin
  obtain ⟨o1,o2⟩:=hls.raw.own (b:=BA) rfl
  let lv2:Value:=.slice (some ⟨BA,0,none⟩) (tcs.length+1) c
  let Fin:World→Prop:=fun w' =>∃cs,LRaw w' w0.heap.size lv2 (tcs++[cs])∧RepT (fun b=>w.heap.size≤b) w' g.told cs
  have finMod :∀w1 w2,Fin w1→Mod [] w1 w2→Fin w2:=fun w1 w2 ⟨cs,h1,h2⟩ hm=>⟨cs,h1.mod hm (by simp),h2.mod hm (by simp) fun _ _ h=>h⟩
  refine kIB hk (S:=[BA]) (R:=fun w1 w2=>Mod [] w1 w2∨(Mod [BA] w1 w2∧Fin w2)) (App:=fun v w1=>v=lv2∧Fin w1) ht hiv h0 h3 hj hi hjl hls hpre hc hB hA hg hr hcs
   (fun b hb=>by simp only [List.mem_singleton] at hb;subst hb;exact ⟨hO _ rfl,rfl⟩) (fun _=>.inl (Mod.refl _ _)) ?_ ?_ (fun _ _ h=>.inl h) ?_ ?_ ?_ hQ
  ·rintro u v w' (h1|⟨h1,f1⟩) (h2|⟨h2,f2⟩)
   ·exact .inl (h1.trans h2)
   ·exact .inr ⟨h1.nil.trans h2,f2⟩
   ·exact .inr ⟨h1.trans h2.nil,finMod _ _ f1 h2⟩
   ·exact .inr ⟨h1.trans h2,f2⟩
  ·rintro w1 w2 (h1|⟨h1,-⟩)
   ·exact h1.nil
   ·exact h1
  ·rintro v w1 w2 ⟨rfl,f1⟩ (h1|⟨h1,f2⟩)
   ·exact ⟨rfl,finMod _ _ f1 h1⟩
   ·exact ⟨rfl,f2⟩
  ·intro σ x y w1 hR hx hy
   obtain ⟨sb,cs,hy,hsb,hblk,htree⟩:=hy
   have hM:Mod [BA] w.drew w1:=hR.elim (·.nil) (·.1)
   have hsz:w.heap.size≤w1.heap.size:=hM.size
   -- the list's block, as it is now
   have hrawblk :∃rest,Blk w1 BA (tcs.flatten++rest)∧rest.length=(c-tcs.length)*5:=by
    rcases hR with h1|⟨-,cs',f1,-⟩
    ·rcases (hls'.raw.mod h1 (by simp)).sl with ⟨h,-⟩|⟨BA',c',rest,h,-,-,hb,hl⟩
     ·simp at h
     ·simp only [Value.slice.injEq,Option.some.injEq,Addr.mk.injEq,and_true,true_and] at h
      obtain ⟨rfl,rfl⟩:=h
      exact ⟨rest,hb,hl⟩
    ·have h5:=f1.five cs' (by simp)
     rcases f1.sl with ⟨h,-⟩|⟨BA',c',rest,h,-,-,hb,hl⟩
     ·simp [lv2] at h
     ·simp only [lv2,List.length_append,List.length_cons,List.length_nil,Value.slice.injEq,Option.some.injEq,Addr.mk.injEq,and_true,true_and] at h
      obtain ⟨rfl,-,rfl⟩:=h
      refine ⟨cs'++rest,by simpa using hb,?_⟩
      simp only [List.length_append,List.length_cons,List.length_nil] at hl ⊢
      omega
   obtain ⟨rest,hb,hl⟩:=hrawblk
   have hraw1:LRaw w1 w0.heap.size (.slice (some ⟨BA,0,none⟩) tcs.length c) tcs:=⟨hls.raw.five,.inr ⟨BA,c,rest,rfl,by omega,o1,hb,hl⟩⟩
   have hfl:=flat5 hls.raw.five
   have hput:Mod [BA] w1 (putCells w1 ⟨BA,tcs.length*5,none⟩ 0 cs):=Mod.put (by simp)
   have h5:=htree.five
   have hsrc:qI w1 5 (.slice (some ⟨sb,0,none⟩) 1 1)=some (1,cs):=by
    simp only [qI,kJ hblk.cells (n:=1*5) (by omega),Option.map_some]
   have hfin:Fin (putCells w1 ⟨BA,tcs.length*5,none⟩ 0 cs):=by
    refine ⟨cs,⟨fun d hd=>?_,.inr ⟨BA,c,rest.drop 5,by simp [lv2],by simpa using hc1,o1,?_,by simp;omega⟩⟩,htree.mod hput (fun b hb hx=>by simp only [List.mem_singleton] at hb;omega) fun _ _ h=>h⟩
    ·rcases List.mem_append.1 hd with hd|hd
     ·exact hls.raw.five d hd
     ·simp only [List.mem_singleton] at hd;subst hd;exact h5
    ·have hp:=hb.put (o:=tcs.length*5) (vs:=cs) (by simp only [List.length_append];omega)
     rwa [uH hfl,h5,←List.append_assoc,←vE] at hp
   simp only [RK.run,hx,hy,hsrc,qV]
   rw [if_pos hc1]
   simp only [Addr.kK,Nat.zero_add]
   exact ⟨qL hb (by simp only [List.length_append];omega) htree.oneCell,.inr ⟨hput,hfin⟩,rfl,hfin⟩
  ·rintro w1 v hR ⟨rfl,cs,f1,f2⟩
   have hM:Mod [BA] w.drew w1:=hR.elim (·.nil) (·.1)
   have t1:RepT (fun b=>w0.heap.size≤b∧own lv2≠some b) w1 g.told cs:=f2.mod (Mod.refl [] _) (by simp) (by
    intro b _ hb
    refine ⟨by omega,fun e=>?_⟩
    have:BA=b:=by simpa [lv2,own] using e
    omega)
   have t2:jN (fun b=>w0.heap.size≤b∧own lv2≠some b) w1 ts tcs:=hls'.rep.mod hM (by
    intro b hb hx
    simp only [List.mem_singleton] at hb;subst hb;exact hx.2 rfl) fun _ _ h=>h
   exact ⟨cs,f1,fun b hb=>.inl hb,t1,t2⟩
 · -- a new block is made
  refine kIB hk (S:=[]) (R:=fun w1 w2=>Mod [] w1 w2) (App:=fun v w1 =>∃cs b,own v=some b∧w.heap.size≤b∧LRaw w1 w0.heap.size v (tcs++[cs])∧RepT (fun b=>w.heap.size≤b∧own v≠some b) w1 g.told cs)
   ht hiv h0 h3 hj hi hjl hls hpre hc hB hA hg hr hcs (by simp) (fun _=>Mod.refl _ _) (fun _ _ _=>Mod.trans) (fun _ _ h=>h) (fun _ _ h=>h) ?_ ?_ ?_ hQ
  ·rintro v w1 w2 ⟨cs,b,h1,h2,h3,h4⟩ hm
   exact ⟨cs,b,h1,h2,h3.mod hm (by simp),h4.mod hm (by simp) fun _ _ h=>h⟩
  ·intro σ x y w1 hR hx hy
   obtain ⟨sb,cs,hy,hsb,hblk,htree⟩:=hy
   refine kBU hx (hls'.raw.mod hR (by simp)) (Nat.le_trans hnw hR.size) hy hblk htree.five htree.oneCell hlen fun lv' w' hraw' hown=>?_
   rcases hown with ⟨-,h2⟩|⟨h1,h2⟩
   ·exact absurd h2 hin
   ·refine ⟨h2,cs,w1.heap.size,h1,hR.size,hraw',htree.mod h2 (by simp) (by
     intro b hb hx
     refine ⟨hx,fun e=>?_⟩
     rw [h1] at e;simp only [Option.some.injEq] at e;omega)⟩
  ·rintro w1 v hR ⟨cs,b,h1,h2,h3,h4⟩
   have t1:RepT (fun b=>w0.heap.size≤b∧own v≠some b) w1 g.told cs:=h4.mod (Mod.refl [] _) (by simp) (by
    intro b' _ hb'
    exact ⟨by omega,hb'.2⟩)
   have t2:jN (fun b=>w0.heap.size≤b∧own v≠some b) w1 ts tcs:=hls'.rep.mod hR (by simp) (by
    intro b' hb' hx
    refine ⟨hx.1,fun e=>?_⟩
    rw [h1] at e;simp only [Option.some.injEq] at e
    have:b'<w.heap.size:=hb'
    omega)
   exact ⟨cs,h3,fun b' hb'=>.inr (by rw [h1] at hb';simp only [Option.some.injEq] at hb';omega),t1,t2⟩
end
def kNE (i t off:Nat):IC :=
 .drw (headD t off++[nd ⟨some (t+6),.isnil .sl false (.tmp (t+5)),none⟩,nd ⟨some (t+7),.iad (.tmp (t+1)) (.const (.int .i64 i)) 5,none⟩,nd ⟨some (t+8),.fad (.tmp (t+7)) 2,none⟩])
 [⟨none,.st (.tmp (t+8)) 1 (.tmp (t+6)),none⟩]
def loopT (k:EK) (i s off iv nb esz:Nat):IC :=
 .seq (.blk [⟨some s,.mv (.tmp 0),none⟩,⟨some (s+1),.nilc (.tmp s),none⟩,⟨some (s+2),.fad (.tmp (s+1)) off,none⟩,⟨some (s+3),.ld (.tmp (s+2)),none⟩,⟨some (s+4),.len (.tmp (s+3)),none⟩,⟨some (s+5),.mv (.const (.int .i64 0)),none⟩])
 (.block nb (.loop (.seq (.blk [⟨some (s+6),.bin .lss (.tmp (s+5)) (.tmp (s+4)),none⟩]) (.seq (.cond (.tmp (s+6)) .skip (.exit nb))
 (.seq (.block (nb+1) (.seq (.blk [⟨some (s+7),.mv (.tmp (s+5)),none⟩,⟨some iv,.mv (.tmp (s+7)),none⟩]) (.seq (.rnd (s+8) (s+9)) (.cond (.tmp (s+9)) (appA k (s+10) i off iv esz) (appB k (s+27+k.n) i off iv esz)))))
 (.blk [⟨some (s+44+2*k.n),.bin .add (.tmp (s+5)) (.const (.int .i64 1)),none⟩,⟨some (s+5),.mv (.tmp (s+44+2*k.n)),none⟩]))))))
section
variable {P:Program}
theorem kPK {i t off Tb Lb n B base:Nat} {pre post:List Value} {sb:Option Addr} {len cap:Nat} {σ:Sl} {w:World} {Q:Exit→Sl→World→Prop} (ht:4≤t)
  (h0:σ 0=.pointer (some ⟨B,base,none⟩)) (h3:σ 3=.pointer (some ⟨Tb,0,none⟩)) (hw:TW w Tb Lb n (pre++(tzero++post))) (hpre:pre.length=i*5) (hi:i<n)
  (hc:w.cell? ⟨B,base+off,none⟩=some (.slice sb len cap))
  (hQ :∀σ' w',Ag t σ σ'→Mod [Lb] w w'→w'.heap.size=w.heap.size→TW w' Tb Lb n (pre++([.int .i64 0,.slice none 0 0,.bool sb.isNone,.slice none 0 0,.slice none 0 0]++post))→Q .normal σ' w'):wpC P (kNE i t off) Q σ w:=by
 have c3:w.drew.cell? ⟨Tb,3,none⟩=some (.slice (some ⟨Lb,0,none⟩) n n):=hw.tb.cell 3
 simp only [kNE,wpC]
 refine xC rfl (kGP ht h0 h3 c3 (show w.drew.cell? _=_ from hc) fun σ1 a1 s1 s5=>?_)
 simp only [nd,List.map_cons,List.map_nil,List.cons_append,List.nil_append]
 refine kC (v:=.bool sb.isNone) (by simp only [RK.val?,ev,s5,Bool.false_eq_true,if_false]) ?_
 refine kC (v:=.pointer (some ⟨Lb,i*5,none⟩)) (by
  simp only [RK.val?,ev,updo,upd,show t+1≠t+6 by omega,if_false,s1];rw [if_pos (by omega)];simp [Addr.kK]) ?_
 refine kC (v:=.pointer (some ⟨Lb,i*5+2,none⟩)) (by simp only [RK.val?,ev,updo,upd_same,Addr.kK]) ?_
 simp only [wpR,RI.wp,gOk,if_true,RK.run,ev,updo,upd_same]
 have e6 :∀x y z,upd (upd (upd σ1 (t+6) x) (t+7) y) (t+8) z (t+6)=x:=fun x y z=>by
  simp only [upd,show t+6≠t+7 by omega,show t+6≠t+8 by omega,if_false,if_true]
 rw [e6]
 have hlb:Blk w.drew Lb (pre++(tzero++post)):=hw.lb
 have hput:Mod [Lb] w.drew (putCells w.drew ⟨Lb,i*5+2,none⟩ 0 [.bool sb.isNone]):=Mod.put (by simp)
 refine ⟨rfl,qL hlb (by simp [tzero,Value.cells];omega) (by simp [Value.cells,Value.oneCell']),hQ _ _ (fun j hj=>?_) ((Mod.drew _ _).trans hput) (by rw [zX];rfl) ⟨?_,?_,hw.ne⟩⟩
 ·simp only [upd,show j≠t+6 by omega,show j≠t+7 by omega,show j≠t+8 by omega,if_false]
  exact a1 j hj
 ·exact (show Blk w.drew Tb _ from hw.tb).mod hput (by simpa using hw.ne)
 ·have hp:=hlb.put (o:=i*5+2) (vs:=[.bool sb.isNone]) (by simp [tzero];omega)
  have e1 :∀x,pre++([.int .i64 0,.slice none 0 0,x,.slice none 0 0,.slice none 0 0]++post)=(pre++[.int .i64 0,.slice none 0 0])++([x]++([.slice none 0 0,.slice none 0 0]++post)):=fun x=>by simp
  rw [show tzero=[.int .i64 0,.slice none 0 0,.bool false,.slice none 0 0,.slice none 0 0] from rfl,e1,jY (old:=[.bool false]) (vs:=[.bool sb.isNone]) (by simp only [List.length_append,List.length_cons,List.length_nil];omega) rfl] at hp
  rw [e1];exact hp
theorem _root_.Go.Msk.RepL.nth {O:List Nat} {w:World} {gs:List GV} {css:List (List Value)} (h:RepL O w gs css) {j:Nat} {g:GV} (hg:gs[j]?=some g) :∃cs,css[j]?=some cs∧Rep O w g cs:=by
 induction gs generalizing css j with
 | nil=>simp at hg
 | cons a l ih =>
 cases h with
 | cons h1 h2 =>
 cases j with
 | zero=>simp only [List.getElem?_cons_zero,Option.some.injEq] at hg;subst hg;exact ⟨_,rfl,h1⟩
 | succ j=>simp only [List.getElem?_cons_succ] at hg ⊢;exact ih h2 hg
theorem kBA {w:World} {a:Addr} {css:List (List Value)} {sz j:Nat} {cs:List Value} (h:Cells w a css.flatten) (hsz :∀c∈css,c.length=sz) (hj:css[j]?=some cs):Cells w ⟨a.block,a.off+j*sz,none⟩ cs:=by
 induction css generalizing a j with
 | nil=>simp at hj
 | cons c css ih =>
   cases j with
   | zero =>
     simp only [List.getElem?_cons_zero,Option.some.injEq] at hj;subst hj
     have:=h.take c.length
     simp only [List.flatten_cons,List.take_left] at this
     have hs:=h.1
     cases a;simp only at hs;subst hs
     simpa using this
   | succ j =>
     simp only [List.getElem?_cons_succ] at hj
     have h1:=h.sub c.length
     simp only [List.flatten_cons,List.drop_left] at h1
     have h2:=ih h1 (fun d hd=>hsz d (List.mem_cons_of_mem _ hd)) hj
     rw [hsz c List.mem_cons_self] at h2
     simp only at h2
     rw [show a.off+(j+1)*sz=a.off+sz+j*sz by rw [Nat.succ_mul];omega]
     exact h2
theorem kNF {s off B base:Nat} {len cap:Nat} {sb:Option Addr} {σ:Sl} {w:World} {Q:Exit→Sl→World→Prop} (h0:σ 0=.pointer (some ⟨B,base,none⟩)) (hc:w.cell? ⟨B,base+off,none⟩=some (.slice sb len cap))
 (hQ :∀σ',Ag s σ σ'→σ' (s+4)=.int .i64 len→σ' (s+5)=.int .i64 0→Q .normal σ' w) :
 wpC P (.blk [⟨some s,.mv (.tmp 0),none⟩,⟨some (s+1),.nilc (.tmp s),none⟩,⟨some (s+2),.fad (.tmp (s+1)) off,none⟩,⟨some (s+3),.ld (.tmp (s+2)),none⟩,⟨some (s+4),.len (.tmp (s+3)),none⟩,⟨some (s+5),.mv (.const (.int .i64 0)),none⟩]) Q σ w:=by
 simp only [wpC]
 refine kC (v:=.pointer (some ⟨B,base,none⟩)) (by simp only [RK.val?,ev,h0]) ?_
 refine kC (v:=.pointer (some ⟨B,base,none⟩)) (by simp only [RK.val?,ev,updo,upd_same]) ?_
 refine kC (v:=.pointer (some ⟨B,base+off,none⟩)) (by simp only [RK.val?,ev,updo,upd_same,Addr.kK]) ?_
 refine kC (v:=.slice sb len cap) (by simp only [RK.val?,ev,updo,upd_same,hc]) ?_
 refine kC (v:=.int .i64 len) (by simp only [RK.val?,ev,updo,upd_same]) ?_
 refine kC (v:=.int .i64 0) (by simp only [RK.val?,ev]) ?_
 simp only [wpR]
 refine hQ _ (fun q hq=>?_) ?_ ?_
 ·simp only [updo,upd,show q≠s by omega,show q≠s+1 by omega,show q≠s+2 by omega,show q≠s+3 by omega,show q≠s+4 by omega,show q≠s+5 by omega,if_false]
 ·simp only [updo,upd,show s+4≠s+5 by omega,if_false,if_true]
 ·simp only [updo,upd_same]
theorem kPL {k:EK} {T:List GV→Prop} (hk:k.Ok P T) {i s off iv nb esz Tb Lb n B base:Nat} {O:List Nat} {pre post:List Value} {gs:List GV} {gcs:List (List Value)} {sb:Option Addr} {cap:Nat} {nl:Bool}
  {σ:Sl} {w:World} {Q:Exit→Sl→World→Prop} (hs:4≤s) (hiv:iv<s) (hiv4:4≤iv) (h0:σ 0=.pointer (some ⟨B,base,none⟩)) (h3:σ 3=.pointer (some ⟨Tb,0,none⟩)) (hi:i<n)
  (hw:TW w Tb Lb n (pre++([.int .i64 0,.slice none 0 0,.bool nl,.slice none 0 0,.slice none 0 0]++post))) (hpre:pre.length=i*5)
  (hc:w.cell? ⟨B,base+off,none⟩=some (.slice sb gs.length cap)) (hB:B≠Lb) (hLO:Lb∈O) (hr:RepL O w gs gcs) (hsb :∀a,sb=some a→a.block ∉ O∧a.block<w.heap.size∧Cells w a gcs.flatten) (hsn:sb=none→gs=[])
  (hsz :∀cs∈gcs,cs.length=esz) (hg :∀g∈gs,k.ty T g) (hlen:gs.length≤2147483647)
  (hQ :∀σ' w' cs,(∀q,q<s→q≠iv→σ' q=σ q)→Mod [Lb] w w'→RepT (fun b=>w.heap.size≤b) w' (.mk 0 [] nl (GV.wI gs) []) cs→TW w' Tb Lb n (pre++(cs++post))→Q .normal σ' w'):wpC P (loopT k i s off iv nb esz) Q σ w:=by
 have hn:=k.n_pos
 have hBlt:B<w.heap.size:=World.block_lt_of_cell? w _ hc
 have hTlt:=hw.tb.lt
 have hLlt:=hw.lb.lt
 unfold loopT
 rw [wpC_seq]
 refine kNF h0 hc fun σ0 a0 s4 s5=>?_
 simp only [kF]
 rw [wpC_block,wpC_loop]
 refine ⟨fun σ1 w1 =>∃j lv tcs,j≤gs.length∧(∀q,q<s→q≠iv→σ1 q=σ q)∧σ1 (s+4)=.int .i64 gs.length∧σ1 (s+5)=.int .i64 j∧LS w w1 Tb Lb n pre post nl lv ((gs.take j).map GV.told) tcs∧tcs.length=j,
  fun σ1 _=>gs.length-(match σ1 (s+5) with|.int _ j=>j.toNat|_=>0),?_,?_⟩
 ·exact ⟨0,.slice none 0 0,[],Nat.zero_le _,fun q hq _=>a0 q hq,s4,s5,⟨hw,⟨by simp,.inl ⟨rfl,rfl⟩⟩,by simpa using .nil,Mod.refl _ _,hTlt,hLlt⟩,rfl⟩
 rintro σ1 w1 ⟨j,lv,tcs,hj,hag,h4,h5,hls,htl⟩
 rw [wpC_seq,kD]
 refine kC (v:=.bool (decide ((j:Int)<gs.length))) (by simp only [RK.val?,ev,h4,h5,kL,decide_true,Bool.or_true,if_true,kM]) ?_
 simp only [wpR,kF]
 rw [wpC_seq]
 by_cases hlt:j<gs.length
 ·have hd:decide ((j:Int)<gs.length)=true:=by simp;omega
  rw [kI (by simp only [ev,updo,upd_same,hd])]
  rw [wpC_skip]
  simp only [kF]
  rw [wpC_seq,wpC_block,wpC_seq,kD]
  refine kC (v:=.int .i64 j) (by simp only [RK.val?,ev,updo,upd,show s+5≠s+6 by omega,if_false,h5]) ?_
  refine kC (v:=.int .i64 j) (by simp only [RK.val?,ev,updo,upd_same]) ?_
  simp only [wpR,kF]
  rw [wpC_seq,wpC_rnd]
  intro c Ty
  simp only [kF]
  -- the state ahead of one more
  have hm1:Mod [] w1 (w1.drew.alloc (.cells [.bool c].toArray Ty)):=(Mod.drew _ _).trans (Mod.alloc _ _ _)
  have hls2:=hls.same hm1
  generalize w1.drew.alloc (.cells [.bool c].toArray Ty)=w2 at hm1 hls2 ⊢
  obtain ⟨gl,hgl⟩ :∃g,gs[j]?=some g:=⟨gs[j],List.getElem?_eq_getElem hlt⟩
  obtain ⟨sa,rfl⟩ :∃a,sb=some a:=by
   cases sb with
   | none=>have:=hsn rfl;subst this;simp at hlt
   | some a=>exact ⟨a,rfl⟩
  obtain ⟨ha1,hAlt,ha2⟩:=hsb sa rfl
  have hm2:=hls2.mod
  have hown :∀b,own lv=some b→w.heap.size≤b:=fun b hb=>(hls.raw.own hb).1
  -- the element
  obtain ⟨cs0,hcs0,hrep0,hc0⟩ :∃cs0,cs0.length=esz∧Rep O w gl cs0∧Cells w ⟨sa.block,sa.off+j*esz,none⟩ cs0:=by
   obtain ⟨cs0,h1,h2⟩:=hr.nth hgl
   refine ⟨cs0,hsz _ (List.mem_of_getElem? h1),h2,?_⟩
   exact kBA ha2 hsz h1
  have hsasp:sa=⟨sa.block,sa.off,none⟩:=by
   have:=ha2.1
   cases sa;simp only at this;subst this;rfl
  have hc2:w2.cell? ⟨B,base+off,none⟩=some (.slice (some ⟨sa.block,sa.off,none⟩) gs.length cap):=by
   rw [←hsasp];exact zH hc hm2 (by simpa using hB)
  have hc02:Cells w2 ⟨sa.block,sa.off+j*esz,none⟩ cs0:=hc0.mod hm2 (.inr (by simp only [List.mem_singleton];exact fun e=>ha1 (e▸hLO)))
  have hrep2:Rep ((own lv).toList++O) w2 gl cs0:=hrep0.fresh hm2 (fun x hx=>.inl (by simp only [List.mem_singleton] at hx;subst hx;exact hLO)) (fun x hx=>by
   rcases List.mem_append.1 hx with hx|hx
   ·exact .inr (hown x (by simpa using hx))
   ·exact .inl hx)
  have hgt:=hg gl (List.mem_of_getElem? hgl)
  -- the slots
  have hσ :∀x,∀q,q<s+10→q≠s+9→q≠s+8→q≠iv→q≠s+7→q≠s+6→(upd (upd (updo (updo (updo σ1 (some (s+6)) (.bool (decide ((j:Int)<gs.length)))) (some (s+7)) (.int .i64 j)) (some iv) (.int .i64 j)) (s+8) x) (s+9) (.bool c)) q=σ1 q:=by
   intro x q h1 h2 h3 h4 h5 h6
   simp only [updo,upd,h2,h3,h4,h5,h6,if_false]
  have hσiv :∀x,(upd (upd (updo (updo (updo σ1 (some (s+6)) (.bool (decide ((j:Int)<gs.length)))) (some (s+7)) (.int .i64 j)) (some iv) (.int .i64 j)) (s+8) x) (s+9) (.bool c)) iv=.int .i64 j:=by
   intro x
   simp only [updo,upd,show iv≠s+8 by omega,show iv≠s+9 by omega,if_false,if_true]
  have hσc :∀x,(upd (upd (updo (updo (updo σ1 (some (s+6)) (.bool (decide ((j:Int)<gs.length)))) (some (s+7)) (.int .i64 j)) (some iv) (.int .i64 j)) (s+8) x) (s+9) (.bool c)) (s+9)=.bool c:=fun x=>by simp only [upd_same]
  generalize Value.pointer (some ⟨w1.heap.size,0,none⟩)=px
  specialize hσ px
  specialize hσiv px
  specialize hσc px
  generalize (upd (upd (updo (updo (updo σ1 (some (s+6)) (.bool (decide ((j:Int)<gs.length)))) (some (s+7)) (.int .i64 j)) (some iv) (.int .i64 j)) (s+8) px) (s+9) (.bool c))=σ2 at hσ hσiv hσc ⊢
  have hσ0:σ2 0=.pointer (some ⟨B,base,none⟩):=by rw [hσ 0 (by omega) (by omega) (by omega) (by omega) (by omega) (by omega),hag 0 (by omega) (by omega)];exact h0
  have hσ3:σ2 3=.pointer (some ⟨Tb,0,none⟩):=by rw [hσ 3 (by omega) (by omega) (by omega) (by omega) (by omega) (by omega),hag 3 (by omega) (by omega)];exact h3
  have fin :∀σ' w' lv' cs,Ag (s+10) σ2 σ'→LS w w' Tb Lb n pre post nl lv' ((gs.take j).map GV.told++[gl.told]) (tcs++[cs]) →
    wpC P (.blk [⟨some (s+44+2*k.n),.bin .add (.tmp (s+5)) (.const (.int .i64 1)),none⟩,⟨some (s+5),.mv (.tmp (s+44+2*k.n)),none⟩])
     (kF (fun σ' w'=>(∃j lv tcs,j≤gs.length∧(∀q,q<s→q≠iv→σ' q=σ q)∧σ' (s+4)=.int .i64 gs.length∧σ' (s+5)=.int .i64 j∧LS w w' Tb Lb n pre post nl lv ((gs.take j).map GV.told) tcs∧tcs.length=j) ∧
      gs.length-(match σ' (s+5) with|.int _ j=>j.toNat|_=>0)<gs.length-(match σ1 (s+5) with|.int _ j=>j.toNat|_=>0)) (kR nb Q)) σ' w':=by
   intro σ' w' lv' cs ha hl
   have h5':σ' (s+5)=.int .i64 j:=by rw [ha _ (by omega),hσ _ (by omega) (by omega) (by omega) (by omega) (by omega) (by omega)];exact h5
   have hw:IntKind.i64.wrap ((j:Int)+1)=((j+1:Nat):Int):=by
    simp only [IntKind.wrap,IntKind.bits,IntKind.signed];simp;omega
   rw [kD]
   refine kC (v:=.int .i64 ((j+1:Nat):Int)) (by simp only [RK.val?,ev,h5',kL,decide_true,Bool.or_true,if_true,kM,hw]) ?_
   refine kC (v:=.int .i64 ((j+1:Nat):Int)) (by simp only [RK.val?,ev,updo,upd_same]) ?_
   simp only [wpR,kF]
   refine ⟨⟨j+1,lv',tcs++[cs],hlt,fun q hq hne=>?_,?_,by simp only [updo,upd_same],?_,by simp [htl]⟩,?_⟩
   ·simp only [updo,upd,show q≠s+5 by omega,show q≠s+44+2*k.n by omega,if_false]
    rw [ha _ (by omega),hσ q (by omega) (by omega) (by omega) hne (by omega) (by omega)]
    exact hag q hq hne
   ·simp only [updo,upd,show s+4≠s+5 by omega,show s+4≠s+44+2*k.n by omega,if_false]
    rw [ha _ (by omega),hσ _ (by omega) (by omega) (by omega) (by omega) (by omega) (by omega)];exact h4
   ·rw [List.take_add_one,hgl]
    simpa using hl
   ·simp only [updo,upd_same,h5,Int.toNat_natCast]
    show gs.length-(j+1)<gs.length-j
    omega
  cases c with
  | true =>
    rw [kI (by simp only [ev,hσc])]
    refine appA_wp hk (by omega) (by omega) hσ0 hσ3 hσiv hi hlt hls2 hpre hc2 hgt hrep2 hc02 (by omega) fun σ' w' lv' cs ha hl=>?_
    exact fin σ' w' lv' cs ha hl
  | false =>
    rw [kG (by simp only [ev,hσc])]
    refine appB_wp hk (by omega) (by omega) hσ0 hσ3 hσiv hi hlt hls2 hpre hc2 hBlt hAlt hgt hrep2 hc02 (by omega) (fun b hb=>by simp [hb]) fun σ' w' lv' cs ha hl=>?_
    exact fin σ' w' lv' cs (ha.mono (by omega)) hl
 ·have hd:decide ((j:Int)<gs.length)=false:=by simp;omega
  rw [kG (by simp only [ev,updo,upd_same,hd])]
  simp only [wpC,kF,kR,if_true]
  have hje:j=gs.length:=by omega
  subst hje
  rw [List.take_length] at hls
  obtain ⟨b1,c1,hlv⟩:=hls.raw.len
  refine hQ _ w1 [.int .i64 0,.slice none 0 0,.bool nl,lv,.slice none 0 0] (fun q hq hne=>?_) hls.mod ?_ hls.tw
  ·simp only [updo,upd,show q≠s+6 by omega,if_false];exact hag q hq hne
  ·refine .mk (css:=tcs) (uss:=[]) SlC.nil ?_ (by rw [GV.uG];exact hls.rep.mod (Mod.refl [] _) (by simp) fun b _ hb=>hb.1) SlC.nil .nil
   rw [GV.uG,List.length_map,←htl]
   rcases hls.raw.sl with ⟨rfl,rfl⟩|⟨BA,cap',rest,rfl,q2,q3,q4,q5⟩
   ·exact SlC.nil
   ·refine ⟨some ⟨BA,0,none⟩,cap',rfl,q2,fun h=>by simp at h,fun a ha _=>?_⟩
    simp only [Option.some.injEq] at ha;subst ha
    refine ⟨q3,q4.lt,?_⟩
    have:=q4.cells.take tcs.flatten.length
    rwa [List.take_left] at this
end
def ir_iOctetsTree (_F:Nat→Nat):IC×List RV×Nat:=(.seq (.blk [⟨some 2,.alloc [.int .i64 0,.slice none 0 0,.bool false,.slice none 0 0,.slice none 0 0],none⟩])
 (.seq (.blk [⟨some 3,.mv (.tmp 0),none⟩,⟨some 4,.append (.const (.slice none 0 0)) (.tmp 3) 1 1,none⟩,⟨some 5,.mv (.tmp 0),none⟩,⟨some 6,.isnil .sl false (.tmp 5),none⟩,
 ⟨some 7,.build [.int .i64 0,.slice none 0 0,.bool false,.slice none 0 0,.slice none 0 0] [(1,1,.tmp 4),(2,1,.tmp 6)],none⟩,⟨none,.st (.tmp 2) 5 (.tmp 7),none⟩]) (.ret)),
 [.cells 2 5],8)
def ir_iTextTree (_F:Nat→Nat):IC×List RV×Nat:=(.seq (.blk [⟨some 2,.alloc [.int .i64 0,.slice none 0 0,.bool false,.slice none 0 0,.slice none 0 0],none⟩])
 (.seq (.seq (.blk [⟨some 3,.mv (.tmp 0),none⟩,⟨some 4,.isnil .pt false (.tmp 3),none⟩]) (.cond (.tmp 4)
 (.seq (.blk [⟨some 5,.build [.int .i64 0,.slice none 0 0,.bool false,.slice none 0 0,.slice none 0 0] [(2,1,.const (.bool true))],none⟩,⟨none,.st (.tmp 2) 5 (.tmp 5),none⟩])
 (.ret)) (.skip))) (.seq (.blk [⟨some 6,.mv (.tmp 0),none⟩,⟨some 7,.nilc (.tmp 6),none⟩,⟨some 8,.ld (.tmp 7),none⟩,⟨some 9,.s2b (.tmp 8),none⟩,
 ⟨some 10,.build [.int .i64 0,.slice none 0 0,.bool false,.slice none 0 0,.slice none 0 0] [(1,1,.tmp 9)],none⟩,⟨none,.st (.tmp 2) 5 (.tmp 10),none⟩]) (.ret))),[.cells 2 5],11)
def ir_lGot (F:Nat→Nat):IC×List RV×Nat:=(.seq (.blk [⟨some 1,.box (.tmp 0),none⟩,⟨some 2,.alloc [.int .i64 0,.slice none 0 0,.bool false,.slice none 0 0,.slice none 0 0],none⟩])
 (.seq (.blk [⟨some 8,.fad (.tmp 1) 0,none⟩,⟨some 9,.ld (.tmp 8),none⟩,⟨some 10,.fad (.tmp 1) 1,none⟩,⟨some 11,.ld (.tmp 10),none⟩,⟨some 12,.fad (.tmp 1) 2,none⟩,
 ⟨some 13,.ld (.tmp 12),none⟩,⟨some 14,.build [.int .i64 0,.slice none 0 0,.bool false,.slice none 0 0,.slice none 0 0] [(0,1,.tmp 9),(1,1,.tmp 11),(2,1,.tmp 13)],none⟩,
 ⟨some 3,.alloc [.int .i64 0,.slice none 0 0,.bool false,.slice none 0 0,.slice none 0 0],none⟩,⟨none,.st (.tmp 3) 5 (.tmp 14),none⟩])
 (.seq (.seq (.blk [⟨some 15,.fad (.tmp 1) 3,none⟩,⟨some 16,.ld (.tmp 15),none⟩,⟨some 17,.len (.tmp 16),none⟩,⟨some 18,.mv (.const (.int .i64 0)),none⟩])
 (.block 0 (.loop (.seq (.blk [⟨some 19,.bin .lss (.tmp 18) (.tmp 17),none⟩]) (.seq (.cond (.tmp 19) (.skip) (.exit 0))
 (.seq (.block 1 (.seq (.blk [⟨some 20,.iad (.tmp 16) (.tmp 18) 5,none⟩,⟨some 21,.ldn (.tmp 20) 5,none⟩,
 ⟨some 5,.alloc [.int .i64 0,.slice none 0 0,.bool false,.slice none 0 0,.slice none 0 0],none⟩,⟨none,.st (.tmp 5) 5 (.tmp 21),none⟩])
 (.drw [⟨⟨some 22,.fad (.tmp 3) 3,none⟩,false,[]⟩,⟨⟨some 23,.ld (.tmp 22),none⟩,false,[]⟩,⟨⟨some 24,.ldn (.tmp 5) 5,none⟩,false,[]⟩,
 ⟨⟨some 25,.call (F lGot) [.tmp 24],none⟩,true,[]⟩,⟨⟨some 26,.bslice 1 [.int .i64 0,.slice none 0 0,.bool false,.slice none 0 0,.slice none 0 0] [(0,5,.tmp 25)],none⟩,true,[3]⟩]
 [⟨some 27,.append (.tmp 23) (.tmp 26) 5 88,none⟩,⟨some 28,.fad (.tmp 3) 3,none⟩,⟨none,.st (.tmp 28) 1 (.tmp 27),none⟩])))
 (.blk [⟨some 29,.bin .add (.tmp 18) (.const (.int .i64 1)),none⟩,⟨some 18,.mv (.tmp 29),none⟩]))))))) (.seq (.seq (.blk [⟨some 30,.fad (.tmp 1) 4,none⟩,
 ⟨some 31,.ld (.tmp 30),none⟩,⟨some 32,.len (.tmp 31),none⟩,⟨some 33,.mv (.const (.int .i64 0)),none⟩]) (.block 2 (.loop (.seq (.blk [⟨some 34,.bin .lss (.tmp 33) (.tmp 32),none⟩])
 (.seq (.cond (.tmp 34) (.skip) (.exit 2)) (.seq (.block 3 (.seq (.blk [⟨some 35,.iad (.tmp 31) (.tmp 33) 2,none⟩,⟨some 36,.ldn (.tmp 35) 2,none⟩,
 ⟨some 7,.alloc [.int .u32 0,.slice none 0 0],none⟩,⟨none,.st (.tmp 7) 2 (.tmp 36),none⟩]) (.blk [⟨some 37,.fad (.tmp 3) 4,none⟩,⟨some 38,.ld (.tmp 37),none⟩,
 ⟨some 39,.fad (.tmp 7) 0,none⟩,⟨some 40,.ld (.tmp 39),none⟩,⟨some 41,.fad (.tmp 7) 1,none⟩,⟨some 42,.ld (.tmp 41),none⟩,
 ⟨some 43,.build [.int .u32 0,.slice none 0 0] [(0,1,.tmp 40),(1,1,.tmp 42)],none⟩,⟨some 44,.bslice 1 [.int .u32 0,.slice none 0 0] [(0,2,.tmp 43)],none⟩,
 ⟨some 45,.append (.tmp 38) (.tmp 44) 2 32,none⟩,⟨some 46,.fad (.tmp 3) 4,none⟩,⟨none,.st (.tmp 46) 1 (.tmp 45),none⟩])))
 (.blk [⟨some 47,.bin .add (.tmp 33) (.const (.int .i64 1)),none⟩,⟨some 33,.mv (.tmp 47),none⟩]))))))) (.seq (.blk [⟨some 48,.ldn (.tmp 3) 5,none⟩,
 ⟨none,.st (.tmp 2) 5 (.tmp 48),none⟩]) (.ret))))),[.cells 2 5],49)
def ir_sSame (_F:Nat→Nat):IC×List RV×Nat:=(.seq (.blk [⟨some 4,.mv (.const (.bool false)),none⟩]) (.seq (.seq (.blk [⟨some 6,.mv (.tmp 0),none⟩,⟨some 7,.len (.tmp 6),none⟩,
 ⟨some 8,.mv (.tmp 1),none⟩,⟨some 9,.len (.tmp 8),none⟩,⟨some 10,.bin .neq (.tmp 7) (.tmp 9),none⟩]) (.cond (.tmp 10) (.seq (.blk [⟨some 4,.mv (.const (.bool false)),none⟩])
 (.ret)) (.skip))) (.seq (.seq (.blk [⟨some 11,.mv (.tmp 0),none⟩,⟨some 12,.len (.tmp 11),none⟩,⟨some 13,.mv (.const (.int .i64 0)),none⟩])
 (.block 0 (.loop (.seq (.blk [⟨some 14,.bin .lss (.tmp 13) (.tmp 12),none⟩]) (.seq (.cond (.tmp 14) (.skip) (.exit 0)) (.seq (.block 1 (.seq (.blk [⟨some 15,.mv (.tmp 13),none⟩,
 ⟨some 5,.mv (.tmp 15),none⟩]) (.seq (.drw [⟨⟨some 16,.mv (.tmp 0),none⟩,false,[]⟩,⟨⟨some 17,.mv (.tmp 5),none⟩,false,[]⟩,⟨⟨some 18,.iad (.tmp 16) (.tmp 17) 1,none⟩,false,[]⟩,
 ⟨⟨some 19,.ld (.tmp 18),none⟩,false,[]⟩,⟨⟨some 20,.mv (.tmp 1),none⟩,false,[]⟩,⟨⟨some 21,.mv (.tmp 5),none⟩,false,[]⟩,⟨⟨some 22,.iad (.tmp 20) (.tmp 21) 1,none⟩,false,[]⟩,
 ⟨⟨some 23,.ld (.tmp 22),none⟩,false,[]⟩,⟨⟨some 24,.bin .neq (.tmp 19) (.tmp 23),none⟩,false,[]⟩] []) (.cond (.tmp 24) (.seq (.blk [⟨some 4,.mv (.const (.bool false)),none⟩])
 (.ret)) (.skip))))) (.blk [⟨some 25,.bin .add (.tmp 13) (.const (.int .i64 1)),none⟩,⟨some 13,.mv (.tmp 25),none⟩]))))))) (.seq (.blk [⟨some 4,.mv (.const (.bool true)),none⟩])
 (.ret)))),[.tmp 4],26)
def ir_lVersion (_F:Nat→Nat):IC×List RV×Nat:=(.seq (.blk [⟨some 4,.mv (.const (.int .i64 0)),none⟩]) (.seq (.blk [⟨some 5,.mv (.tmp 0),none⟩,⟨some 6,.conv .i64 (.tmp 5),none⟩,
 ⟨some 7,.mv (.tmp 1),none⟩,⟨some 8,.bin .add (.tmp 7) (.const (.int .i64 1)),none⟩,⟨some 9,.bin .rem (.tmp 6) (.tmp 8),none⟩,⟨some 4,.mv (.tmp 9),none⟩]) (.ret)),[.tmp 4],10)
end Go.Msk
