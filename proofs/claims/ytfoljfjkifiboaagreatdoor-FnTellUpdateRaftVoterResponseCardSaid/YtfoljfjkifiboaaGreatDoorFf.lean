/- A small language of resolved operations, and what the generic and the generated functions do in it (part 6). -/
import Derived.Test.YtfoljfjkifiboaaGreatDoorFe
namespace Go.Msk
open Go.RowKit
set_option maxRecDepth 100000
theorem jY {pre old post vs:List Value} {o:Nat} (h:pre.length=o) (hl:vs.length=old.length):splice (pre++(old++post)) o vs=pre++(vs++post):=by
 subst h
 simp [splice,hl]
theorem Df.kBR (d:Df):d.zero.length=d.size:=by cases d<;>simp [Df.zero,Df.size,u8s]
section
variable {P:Program} {E:RE} {D:Dec}
theorem kGJ {sp x t off n B base:Nat} {σ:Sl} {w:World} {v:Value} {pre old post:List Value} {Q:Exit→Sl→World→Prop} (hs:σ sp=.pointer (some ⟨B,base,none⟩)) (hx:σ x=v)
 (hb:Blk w B (pre++(old++post))) (hpre:pre.length=base+off) (hv:v.cells.size=n) (ho:old.length=n) (h1 :∀y∈v.cells.toList,y.oneCell'=true) (lx:x<t) (ls:sp<t)
 (hQ :∀σ' w',Ag t σ σ'→Mod [B] w w'→Blk w' B (pre++(v.cells.toList++post))→Q .normal σ' w'):wpC P (stF sp x t off n) Q σ w:=by
 have hl:v.cells.toList.length=n:=by simpa using hv
 refine kM0 hs hx hb (by simp only [List.length_append];omega) hv h1 lx ls fun σ' a'=>hQ σ' _ a' (Mod.put (by simp)) ?_
 have:=hb.put (o:=base+off) (vs:=v.cells.toList) (by simp only [List.length_append];omega)
 rwa [jY hpre (by omega)] at this
theorem kKS {init:Option Value} {x:Nat} {l:List IC} {Q:Exit→Sl→World→Prop} {σ:Sl} {w:World} (h :∀σ',(∀j,j≠x→σ' j=σ j)→wpL P l Q σ' w):wpL P (kM2 init x++l) Q σ w:=by
 cases init with
 | none=>exact h σ fun _ _=>rfl
 | some v =>
 simp only [kM2,List.cons_append,List.nil_append,wpL]
 refine kJM ?_
 simp only [kF]
 exact h _ fun j hj=>upd_ne _ _ hj
theorem elemP {nv t n A k c rb:Nat} {init:Option Value} {r:VR} {S:List Nat} {u x:Bool} {ver:Int} {z:List Value} {Te:TypeId} {ve:Value} {σ0:Sl} {w0:World} {dec:RS→GV×RS}
  (hE:RV.Env E nv rb u x ver σ0) (ha:σ0 (nv+1)=.slice (some ⟨A,0,none⟩) k c) (lt:nv+5≤t) (hr:RdG P (r.sel u x) n dec) (hz:z.length=n) (hrb:rb ∉ A::S) (hS :∀y∈A::S,y<w0.heap.size) :
  ElC P (kM2 init (nv+4)++[r.gen E (nv+4) t,stE nv (t+r.nt E.hasFx) n]) E.ret (nv+4) (nv+3) k n A rb S z Te ve σ0 w0 fun s=>some (dec s):=by
 intro i σ w s pre post Q hi hag hic hm hrd hb hpre hQ
 refine kKS fun σ1 a1=>?_
 simp only [wpL]
 have g1:Ag nv σ0 σ1:=fun j hj=>by rw [a1 j (by omega)];exact hag j (by omega) (by omega)
 refine VR.wp r _ _ w (hE.ag g1 (Nat.le_refl _)) (by omega) (by omega) hr hrd hrb (fun y hy=>Nat.lt_of_lt_of_le (hS y hy) hm.size) fun σ2 w2 v a2 v2 hv hr2 hm2=>?_
 obtain ⟨hv1,hv2⟩:=hv
 have hArb:A≠rb:=fun e=>hrb (by rw [e];exact List.mem_cons_self)
 have hb2:Blk w2 A (pre++(z++post)):=hb.mod hm2 (by simpa using hArb)
 have hl:v.cells.toList.length=n:=by simpa using hv1
 simp only [kF]
 refine stE_wp (i:=i) (k:=k) (c:=c) ?_ ?_ v2 hi hb2 (by simp only [List.length_append];omega) hv1 hv2.oneCell (by omega) fun σ3 a3=>?_
 ·rw [a2 _ (by omega) (by omega),a1 _ (by omega),hag _ (by omega) (by omega)];exact ha
 ·rw [a2 _ (by omega) (by omega),a1 _ (by omega)];exact hic
 have hput:Mod [A] w2 (putCells w2 ⟨A,i*n,none⟩ 0 v.cells.toList):=Mod.put (by simp)
 refine hQ _ _ v.cells.toList (fun j hj=>?_) ((hm2.mono (by simp)).trans (hput.mono (by simp))) (hr2.mod hput (by simpa using hArb.symm) (by simp)) (hv2.mod hput (by simp)) hl ?_
 ·rw [a3 j (by omega),a2 j (by omega) (by omega),a1 j (by omega)]
 ·have:=hb2.put (o:=i*n) (vs:=v.cells.toList) (by simp only [List.length_append];omega)
  rwa [jY hpre (by omega)] at this
theorem rdF_wp {sp rb rbs t off B o:Nat} {f:FuncId} {S:List Nat} {s:RS} {σ:Sl} {w:World} {pre old post:List Value} {Φ:List Nat→RS→Value→World→Prop} {nx:RS→RS} {Q:Exit→Sl→World→Prop}
  (hR:RdV P f Φ nx) (hs:σ sp=.pointer (some ⟨B,o,none⟩)) (hrb:σ rbs=.pointer (some ⟨rb,0,none⟩)) (_ls:sp<t) (lr:rbs<t) (hr:IsRd S w rb s) (hrS:rb ∉ S) (hBS:B∈S) (hS :∀y∈S,y<w.heap.size)
  (hb:Blk w B (pre++(old++post))) (hpre:pre.length=o+off) (ho:old.length=1)
  (hone :∀O v w,Φ O s v w→v.cells.size=1 ∧∀y∈v.cells.toList,y.oneCell'=true)
  (hQ :∀σ' w1 w' v,Ag t σ σ'→Φ (rb::S) s v w1→Mod [rb] w w1→Mod [B] w1 w'→IsRd S w' rb (nx s)→Blk w' B (pre++(v.cells.toList++post))→Q .normal σ' w'):wpC P (rdF sp rbs t off f) Q σ w:=by
 have hBrb:B≠rb:=fun e=>hrS (e▸hBS)
 simp only [rdF,wpC,wpR,RI.wp,gOk,if_true,RK.run,ev,updo,List.map_cons,List.map_nil]
 simp only [upd,if_true,hs,hrb,show rbs≠t by omega,if_false]
 refine (hR S w rb s hr hrS hS).mono ?_
 rintro e w1 ⟨v,rfl,hv,hr1,hm1⟩
 refine ⟨v,rfl,?_⟩
 simp only [show t≠t+1 by omega,show t+1≠t+2 by omega,show t+1≠t+3 by omega,if_false,Addr.kK]
 obtain ⟨h1,h2⟩:=hone _ _ _ hv
 have hl:v.cells.toList.length=1:=by simpa using h1
 have hb1:Blk w1 B (pre++(old++post)):=hb.mod hm1 (by simpa using hBrb)
 have hput:Mod [B] w1 (putCells w1 ⟨B,o+off,none⟩ 0 v.cells.toList):=Mod.put (by simp)
 refine ⟨h1,qL hb1 (by simp only [List.length_append];omega) h2,hQ _ w1 _ v ?_ hv hm1 hput (hr1.mod hput (by simpa using hBrb.symm) (by simpa using hBS)) ?_⟩
 ·intro j hj
  simp only [upd,show j≠t by omega,show j≠t+1 by omega,show j≠t+2 by omega,show j≠t+3 by omega,if_false]
 ·have:=hb1.put (o:=o+off) (vs:=v.cells.toList) (by simp only [List.length_append];omega)
  rwa [jY hpre (by omega)] at this
theorem uidR_wp {sp rb rbs nv t off B o:Nat} {f:FuncId} {S:List Nat} {s:RS} {σ:Sl} {w:World} {pre old post:List Value} {dec:RS→GV×RS} {Q:Exit→Sl→World→Prop}
  (hR:RdG P f 16 dec) (hs:σ sp=.pointer (some ⟨B,o,none⟩)) (hrb:σ rbs=.pointer (some ⟨rb,0,none⟩)) (ls:sp<nv) (_lr:rbs<nv) (ln:nv<t) (hr:IsRd S w rb s) (hrS:rb ∉ S) (hBS:B∈S) (hS :∀y∈S,y<w.heap.size)
  (hb:Blk w B (pre++(old++post))) (hpre:pre.length=o+off) (ho:old.length=16)
  (hQ :∀σ' w' cs,Ag nv σ σ'→Mod [rb,B] w w'→IsRd S w' rb (dec s).2→Rep (rb::S) w' (dec s).1 cs→cs.length=16→Blk w' B (pre++(cs++post))→Q .normal σ' w'):wpC P (uidR sp rbs nv t off f) Q σ w:=by
 have hBrb:B≠rb:=fun e=>hrS (e▸hBS)
 unfold uidR
 rw [wpC_seq,kD]
 refine xD (vs:=[.pointer (some ⟨rb,0,none⟩)]) (by simp only [List.map_cons,List.map_nil,ev,hrb]) (hR S w rb s hr hrS hS) ?_
 rintro e w1 ⟨v,rfl,⟨hv,hrep⟩,hr1,hm1⟩
 refine ⟨v,rfl,?_⟩
 have hl:v.cells.toList.length=16:=by simpa using hv
 have hb1:Blk w1 B (pre++(old++post)):=hb.mod hm1 (by simpa using hBrb)
 refine kX ?_
 intro T
 obtain ⟨k1,k2,k3⟩:=wV w1 (u8s (List.replicate 16 0)) v.cells.toList T (by rw [hl];rfl) hrep.oneCell
 generalize hw2:w1.alloc (.cells (u8s (List.replicate 16 0)).toArray T)=w2 at k1 k2 k3 ⊢
 refine kX ?_
 simp only [RK.run,ev,updo,upd,if_true,show t≠nv by omega,if_false]
 refine ⟨hv,k1,?_⟩
 generalize putCells w2 ⟨w1.heap.size,0,none⟩ 0 v.cells.toList=w3 at k2 k3 ⊢
 refine kE ?_
 rw [kD]
 refine kC (v:=.pointer (some ⟨B,o,none⟩)) (by simp only [RK.val?,ev,upd,show sp≠nv by omega,show sp≠t by omega,if_false,hs]) ?_
 refine kC (v:=.agg v.cells.toList.toArray) (by
  simp only [RK.val?,ev,updo,upd,show nv≠t+1 by omega,if_false,if_true,kJ k2.cells hl,Option.map_some]) ?_
 refine kC (v:=.pointer (some ⟨B,o,none⟩)) (by simp only [RK.val?,ev,updo,upd,show t+1≠t+2 by omega,if_false,if_true]) ?_
 refine kC (v:=.pointer (some ⟨B,o+off,none⟩)) (by simp only [RK.val?,ev,updo,upd_same,Addr.kK]) ?_
 have hb3:Blk w3 B (pre++(old++post)):=hb1.mod k3 (by simp)
 have hput:Mod [B] w3 (putCells w3 ⟨B,o+off,none⟩ 0 v.cells.toList):=Mod.put (by simp)
 refine kX ?_
 have ec:(Value.agg v.cells.toList.toArray).cells.toList=v.cells.toList:=rfl
 simp only [RK.run,ev,updo,upd,show t+2≠t+3 by omega,show t+2≠t+4 by omega,if_false,if_true,ec]
 refine ⟨by show v.cells.toList.toArray.size=16;simpa using hv,qL hb3 (by simp only [List.length_append];omega) hrep.oneCell,?_⟩
 have hm13:Mod [rb,B] w1 (putCells w3 ⟨B,o+off,none⟩ 0 v.cells.toList):=(k3.mono (by simp)).trans (hput.mono (by simp))
 simp only [wpR]
 refine hQ _ _ v.cells.toList (fun j hj=>?_) ((hm1.mono (by simp)).trans hm13) ((hr1.mod k3 (by simp) (by simp)).mod hput (by simpa using hBrb.symm) (by simpa using hBS)) ((hrep.mod k3 (by simp)).mod hput (by simpa using .inr hBS)) hl ?_
 ·simp only [upd,show j≠t by omega,show j≠nv by omega,show j≠t+1 by omega,show j≠t+2 by omega,show j≠t+3 by omega,show j≠t+4 by omega,if_false]
 ·have:=hb3.put (o:=o+off) (vs:=v.cells.toList) (by simp only [List.length_append];omega)
  rwa [jY hpre (by omega)] at this
def Sc.kPA (P:Program) (E:RE) (D:Dec) (g rb:Nat) (Te:TypeId) (ve:Value) (u x:Bool) (ver:Int) (sc:Sc):Prop :=
 ∀(sp off nv nt nb B base:Nat) (S:List Nat) (s:RS) (pre post:List Value) (σ:Sl) (w:World) (Q:Exit→Sl→World→Prop),sc.Ok P D u x →
 RV.Env E nv rb u x ver σ→sp<nv→nv+sc.nv≤nt→σ sp=.pointer (some ⟨B,base,none⟩)→pre.length=base+off →
 IsRd S w rb s→rb ∉ S→B∈S→(∀y∈S,y<w.heap.size)→GErr g w Te ve→g ∉ rb::S→Blk w B (pre++(sc.dcs.flatten++post)) →
 (match sc.dec D ver x s with
 | some (gs,s') =>∀σ' w' css,Ag nv σ σ'→Mod [rb,B] w w'→IsRd S w' rb s'→RepL (rb::S) w' gs css→css.flatten.length=sc.dcs.flatten.length→Blk w' B (pre++(css.flatten++post))→Q .normal σ' w'
 | none =>∀σ' w',Mod [rb,B] w w'→σ' E.ret=.iface Te ve→Q .ret σ' w') →
 wpL P (sc.gen E sp off nv nt nb) Q σ w
theorem uT {g rb B base sp off nv nt' nb nv' k:Nat} {Te:TypeId} {ve:Value} {u x:Bool} {ver:Int} {S:List Nat} {σ:Sl} {w:World} {pre post old:List Value} {rest:Sc} {c:IC}
  {f:Option (GV×RS)} {Q:Exit→Sl→World→Prop} (ih:rest.kPA P E D g rb Te ve u x ver) (hok:rest.Ok P D u x) (hE:RV.Env E nv rb u x ver σ) (ls:sp<nv) (hnv:nv≤nv') (hnt:nv'+rest.nv≤nt')
  (hs:σ sp=.pointer (some ⟨B,base,none⟩)) (hpre:pre.length=base+off) (hrb:rb ∉ S) (hB:B∈S) (hS :∀y∈S,y<w.heap.size) (hg:GErr g w Te ve) (hgn:g ∉ rb::S) (hk:old.length=k)
  (hc :∀Q':Exit→Sl→World→Prop,(match f with
      | some (gv,s') =>∀σ' w' cs,Ag nv σ σ'→Mod [rb,B] w w'→IsRd S w' rb s'→Rep (rb::S) w' gv cs→cs.length=k→Blk w' B (pre++(cs++(rest.dcs.flatten++post)))→Q' .normal σ' w'
      | none =>∀σ' w',Mod [rb,B] w w'→σ' E.ret=.iface Te ve→Q' .ret σ' w')→wpC P c Q' σ w)
  (hQ:match kCT f (rest.dec D ver x) with
   | some (gs,s') =>∀σ' w' css,Ag nv σ σ'→Mod [rb,B] w w'→IsRd S w' rb s'→RepL (rb::S) w' gs css→css.flatten.length=(old++rest.dcs.flatten).length→Blk w' B (pre++(css.flatten++post))→Q .normal σ' w'
   | none =>∀σ' w',Mod [rb,B] w w'→σ' E.ret=.iface Te ve→Q .ret σ' w') :
  wpL P (c::rest.gen E sp (off+k) nv' nt' nb) Q σ w:=by
 simp only [wpL]
 refine hc _ ?_
 cases f with
 | none =>
   simp only [kCT] at hQ
   intro σ' w' hm hret
   exact hQ σ' w' hm hret
 | some p =>
   obtain ⟨gv,s1⟩:=p
   intro σ1 w1 cs a1 hm1 hr1 hrep hcs hb1
   simp only [kF]
   have hgm:g ∉ [rb,B]:=by
    simp only [List.mem_cons,not_or,List.not_mem_nil,not_false_eq_true,and_true] at hgn ⊢
    exact ⟨hgn.1,fun e=>hgn.2 (e▸hB)⟩
   refine ih sp (off+k) nv' nt' nb B base S s1 (pre++cs) post σ1 w1 Q hok (hE.ag a1 hnv) (by omega) hnt (by rw [a1 _ ls];exact hs) (by simp only [List.length_append];omega) hr1 hrb hB
    (fun y hy=>Nat.lt_of_lt_of_le (hS y hy) hm1.size) (zH hg hm1 hgm) hgn (by simpa only [List.append_assoc] using hb1) ?_
   simp only [kCT] at hQ
   cases hd:rest.dec D ver x s1 with
   | none =>
     rw [hd] at hQ
     intro σ' w' hm hret
     exact hQ σ' w' (hm1.trans hm) hret
   | some q =>
     obtain ⟨gs,s2⟩:=q
     rw [hd] at hQ
     intro σ' w' css a2 hm2 hr2 hrep2 hlen hb2
     refine hQ σ' w' (cs::css) ((a1).trans (a2.mono hnv)) (hm1.trans hm2) hr2 (.cons (hrep.mod hm2 ?_) hrep2) ?_ ?_
     ·simp only [List.mem_cons,List.not_mem_nil,or_false]
      rintro y (rfl|rfl)
      ·exact .inl rfl
      ·exact .inr hB
     ·simp only [List.flatten_cons,List.length_append];omega
     ·simpa only [List.flatten_cons,List.append_assoc] using hb2
theorem kM4 {g rb:Nat} {Te:TypeId} {ve:Value} {u x:Bool} {ver:Int} {body:Sc} (ihb:body.kPA P E D g rb Te ve u x ver) (hOb:body.Ok P D u x) {sp nv nt nb B base:Nat} {S:List Nat} {s:RS}
 {pre post:List Value} {σ:Sl} {w:World} {Q:Exit→Sl→World→Prop}
 (hE:RV.Env E nv rb u x ver σ) (ls:sp<nv) (hnt:nv+body.nv≤nt) (hs:σ sp=.pointer (some ⟨B,base,none⟩)) (hpre:pre.length=base)
 (hr:IsRd S w rb s) (hrb:rb ∉ S) (hB:B∈S) (hS :∀y∈S,y<w.heap.size) (hg:GErr g w Te ve) (hgn:g ∉ rb::S) (hb:Blk w B (pre++(body.dcs.flatten++post)))
 (hQ:match rcdD (body.dec D ver x s) with
 | some (gv,s') =>∀σ' w' cs,Ag nv σ σ'→Mod [rb,B] w w'→IsRd S w' rb s'→Rep (rb::S) w' gv cs→cs.length=body.size→Blk w' B (pre++(cs++post))→Q .normal σ' w'
 | none =>∀σ' w',Mod [rb,B] w w'→σ' E.ret=.iface Te ve→Q .ret σ' w'):wpL P (body.gen E sp 0 nv nt nb) Q σ w:=by
 refine ihb sp 0 nv nt nb B base S s pre post σ w Q hOb hE ls hnt hs hpre hr hrb hB hS hg hgn hb ?_
 cases hd:body.dec D ver x s with
 | none=>rw [hd] at hQ;exact hQ
 | some q =>
 obtain ⟨gs,s'⟩:=q
 rw [hd] at hQ
 intro σ' w' css a' hm' hr' hrep' hl' hb'
 exact hQ σ' w' css.flatten a' hm' hr' (.rcd hrep') hl' hb'
theorem elemS {g rb:Nat} {Te:TypeId} {ve:Value} {u x:Bool} {ver:Int} {body:Sc} (ihb:body.kPA P E D g rb Te ve u x ver) (hOb:body.Ok P D u x) {nv t nb A k c dfl:Nat} {S:List Nat} {z:List Value} {σ0:Sl} {w0:World}
  (hE:RV.Env E nv rb u x ver σ0) (ha:σ0 (nv+1)=.slice (some ⟨A,0,none⟩) k c) (lt:nv+6+body.nv≤t) (hz:z.length=body.size) (hD:DfC P dfl z body.dcs.flatten) (hrb:rb ∉ A::S) (hS :∀y∈A::S,y<w0.heap.size)
  (hg:GErr g w0 Te ve) (hgn:g ∉ rb::A::S) :
  ElC P (elF nv t z.length dfl++body.gen E (nv+5) 0 (nv+6) (t+6) nb) E.ret (nv+4) (nv+3) k z.length A rb S z Te ve σ0 w0 fun s=>rcdD (body.dec D ver x s):=by
 intro i σ w s pre post Q hi hag hic hm hrd hb hpre hQ
 dsimp only at hQ
 have hArb:A≠rb:=fun e=>hrb (by rw [e];exact List.mem_cons_self)
 have hv1:σ (nv+1)=.slice (some ⟨A,0,none⟩) k c:=by rw [hag _ (by omega) (by omega)];exact ha
 have hgm:g ∉ [rb,A]:=by
  simp only [List.mem_cons,not_or] at hgn ⊢
  exact ⟨hgn.1,hgn.2.1,by simp⟩
 simp only [elF,List.cons_append,List.nil_append,wpL,wpC,wpR,RI.wp,gOk,if_true,RK.run,ev,updo,kF]
 simp only [upd,if_true,hv1,hic,show nv+3≠t by omega,show t≠t+1 by omega,if_false,Int.toNat_natCast,Addr.kK,Nat.zero_add,List.map_cons,List.map_nil,ev]
 refine ⟨by omega,by omega,?_⟩
 have hcall:=hD w A pre post hb
 rw [hpre] at hcall
 refine hcall.mono ?_
 rintro e w1 ⟨rfl,hb1,hm1⟩
 refine ⟨_,rfl,?_⟩
 refine kDH (by omega) fun σ1 a1 v1=>?_
 simp only [kF]
 have hagA :∀j,j<nv+4→σ1 j=σ j:=by
  intro j hj
  rw [a1 j (by omega) (by omega)]
  simp only [upd,show j≠t by omega,show j≠t+1 by omega,show j≠t+2 by omega,show j≠t+3 by omega,show j≠t+4 by omega,show j≠nv+4 by omega,if_false]
 have hE1:RV.Env E (nv+6) rb u x ver σ1:=hE.ag (fun j hj=>by rw [hagA j (by omega)];exact hag j (by omega) (by omega)) (by omega)
 have hm01:Mod [rb,A] w0 w1:=hm.trans (hm1.mono (by simp))
 refine kM4 ihb hOb (B:=A) (base:=i*z.length) (S:=A::S) hE1 (by omega) (by omega) ?_ hpre (hrd.mod hm1 (by simpa using hArb.symm) (by simp)) hrb (by simp)
  (fun y hy=>Nat.lt_of_lt_of_le (hS y hy) hm01.size) (zH hg hm01 hgm) hgn hb1 ?_
 ·rw [v1];simp only [upd,show nv+4≠t+3 by omega,show nv+4≠t+4 by omega,if_false,if_true]
 ·cases hd:rcdD (body.dec D ver x s) with
  | none =>
    rw [hd] at hQ
    intro σ' w' hm' hret
    exact hQ σ' w' ((hm1.mono (by simp)).trans hm') hret
  | some q =>
    obtain ⟨gv,s'⟩:=q
    rw [hd] at hQ
    intro σ' w' cs a' hm' hr' hrep' hl' hb'
    exact hQ σ' w' cs (fun j hj=>by rw [a' j (by omega)];exact hagA j (by omega)) ((hm1.mono (by simp)).trans hm') hr' hrep' (by rw [hl',hz]) hb'
theorem vstF_wp {sp off nv t rb B base:Nat} {V:Int} {r1 r2:VR} {S:List Nat} {s:RS} {σ:Sl} {w:World} {pre old post:List Value} {u x:Bool} {ver:Int} {Q:Exit→Sl→World→Prop}
  (h1:RdG P (r1.sel u x) 1 (D.prim .str x)) (h2:RdG P (r2.sel u x) 1 (D.prim .nstr x)) (hstr :∀s,∃l,(D.prim .str x s).1=.num (Msk.str l)) (hE:RV.Env E nv rb u x ver σ) (ls:sp<nv) (ln:nv+2≤t) (hs:σ sp=.pointer (some ⟨B,base,none⟩))
  (hr:IsRd S w rb s) (hrb:rb ∉ S) (hB:B∈S) (hS :∀y∈S,y<w.heap.size) (hb:Blk w B (pre++(old++post))) (hpre:pre.length=base+off) (ho:old.length=1)
  (hQ :∀σ' w' cs,Ag nv σ σ'→Mod [rb,B] w w'→IsRd S w' rb (decV D x V ver s).2→Rep (rb::S) w' (decV D x V ver s).1 cs→cs.length=1→Blk w' B (pre++(cs++post))→Q .normal σ' w'):wpC P (vstF E sp off nv V r1 r2 t) Q σ w:=by
 have hBrb:B≠rb:=fun e => hrb (e▸hB)
 have lv:=hE.lv
 unfold vstF
 rw [yB]
 simp only [wpL]
 refine kJM ?_
 simp only [kF]
 rw [wpC_seq,kD]
 refine kC (v:=.int .i16 ver) (by simp only [RK.val?,ev,upd,show E.vs≠nv by omega,if_false,hE.hv]) ?_
 refine kC (v:=.bool (decide (ver<V))) (by simp [RK.val?,ev,updo,upd,kL,kM]) ?_
 refine kE ?_
 generalize hσ:updo _ (some (t+1)) _=σ1
 have g1:Ag nv σ σ1:=fun j hj => by rw [←hσ];simp only [updo,upd,show j≠t+1 by omega,show j≠t by omega,show j≠nv by omega,if_false]
 have c1:σ1 (t+1)=.bool (decide (ver<V)):=by rw [←hσ];simp only [updo,upd_same]
 clear hσ
 by_cases hv:ver<V
 ·rw [decide_eq_true hv] at c1
  rw [kI (by simp only [ev,c1]),yB]
  simp only [decV,if_pos hv] at hQ
  simp only [wpL]
  rw [kD]
  refine kX ?_
  intro T
  have hA:=Blk.new w [.string .empty] T
  have m1:Mod [] w (w.alloc (.cells [Value.string .empty].toArray T)):=Mod.alloc _ _ _
  generalize w.alloc (.cells [Value.string .empty].toArray T)=w1 at hA m1 ⊢
  have hsz1:=m1.size
  have hrlt:=hr.lt
  have hBlt:=hb.lt
  have hr1:IsRd (w.heap.size::S) w1 rb s:=hr.fresh m1 (Nat.le_refl _)
  have hAS:w.heap.size ∉ rb::S:=by
   simp only [List.mem_cons,not_or]
   exact ⟨by omega,fun hc => by have:=hS _ hc;omega⟩
  refine kE ?_
  refine VR.wpS (A:=w.heap.size) r1 _ _ w1 (.string .empty) (hE.ag (m:=nv) (g1.upd (by omega)) (Nat.le_refl _)) (by omega) (by omega) h1 hr1 (by simp only [List.mem_cons,not_or];exact ⟨by omega,hrb⟩)
   (fun y hy => by rcases List.mem_cons.1 hy with rfl|hy
                   ·exact hA.lt
                   ·exact Nat.lt_of_lt_of_le (hS y hy) hsz1) (by simp only [updo,upd_same]) hA fun σ2 w2 cs a2 hrep hr2 hA2 m2 => ?_
  obtain ⟨l,hl⟩:=hstr s
  rw [hl] at hrep hQ
  cases hrep
  simp only [kF]
  rw [kD]
  refine kC (v:=.pointer (some ⟨w.heap.size,0,none⟩)) (by simp only [RK.val?,ev,a2 (nv+1) (by omega),updo,upd_same]) ?_
  refine kE ?_
  have g2:Ag nv σ (updo σ2 (some nv) (.pointer (some ⟨w.heap.size,0,none⟩))):=fun j hj => by
   simp only [updo,upd,show j≠nv by omega,if_false]
   rw [a2 j (by omega)]
   simp only [updo,upd,show j≠nv+1 by omega,if_false]
   exact g1 j hj
  have hb2:Blk w2 B (pre++(old++post)):=(hb.mod m1 (by simp)).mod m2 (by simp only [List.mem_cons,List.not_mem_nil,or_false,not_or];exact ⟨hBrb,by omega⟩)
  refine kGJ (old:=old) (v:=.pointer (some ⟨w.heap.size,0,none⟩)) (by rw [g2 _ ls];exact hs) (by simp only [updo,upd_same]) hb2 hpre rfl ho (by simp [Value.cells,Value.oneCell']) (by omega) (by omega) fun σ4 w4 a4 m4 hb4 => ?_
  refine hQ σ4 w4 [.pointer (some ⟨w.heap.size,0,none⟩)] (fun j hj => by rw [a4 j (by omega)];exact g2 j hj) ?_ ((hr2.weaken fun y hy => List.mem_cons_of_mem _ hy).mod m4 (by simpa using hBrb.symm) (by simpa using hB)) ?_ rfl hb4
  ·exact Mod.drop (b:=w.heap.size) (S:=[rb,B]) ((m1.nil.trans (m2.mono (by simp))).trans (m4.mono (by simp))) (Nat.le_refl _)
  ·have hA4:=hA2.mod m4 (by simp only [List.mem_singleton];omega)
   have e:GV.toN (.num (Msk.str l))=.nstr (some l):=by simp [GV.toN,Msk.str]
   rw [e]
   exact .nstr1 hAS (hA4.cell 0)
 ·rw [decide_eq_false hv] at c1
  rw [kG (by simp only [ev,c1])]
  simp only [decV,if_neg hv] at hQ
  refine VR.wp r2 _ _ w (hE.ag g1 (Nat.le_refl _)) (by omega) (by omega) h2 hr hrb hS fun σ3 w3 v a3 v3 hv3 hr3 hm3 => ?_
  obtain ⟨hv1,hv2⟩:=hv3
  simp only [kF]
  have g3:Ag nv σ σ3:=fun j hj => by rw [a3 j (by omega) (by omega)];exact g1 j hj
  refine kGJ (old:=old) (by rw [g3 _ ls];exact hs) v3 (hb.mod hm3 (by simpa using hBrb)) hpre hv1 ho hv2.oneCell (by omega) (by omega) fun σ4 w4 a4 hm4 hb4 => ?_
  exact hQ σ4 w4 v.cells.toList (fun j hj => by rw [a4 j (by omega)];exact g3 j hj) ((hm3.mono (by simp)).trans (hm4.mono (by simp))) (hr3.mod hm4 (by simpa using hBrb.symm) (by simpa using hB)) (hv2.mod hm4 (by simpa using .inr hB)) (by simpa using hv1) hb4
def Sc.lists:Sc→Bool
 | .nil=>false
 | .tags _=>false
 | .prm _ _ _ _ _ rest=>rest.lists
 | .enm _ _ _ _ _ rest=>rest.lists
 | .uid _ _ rest=>rest.lists
 | .vst _ _ _ _ rest=>rest.lists
 | .lsp _ _ _ _ _ _ _ _=>true
 | .lss _ _ _ _ _ _ _=>true
 | .sub _ _ body rest=>body.lists||rest.lists
theorem Sc.sound {g rb:Nat} {Te:TypeId} {ve:Value} {u x:Bool} {ver:Int} (hcpl:CplC P E.cpl g) (hsh:D.kJN) :∀sc:Sc,(sc.lists=true→OkC P E.ok)→sc.kPA P E D g rb Te ve u x ver:=by
 intro sc
 induction sc with
 | nil =>
   intro hok sp off nv nt nb B base S s pre post σ w Q hO hE ls hnt hs hpre hr hrb hB hS hg hgn hb hQ
   simp only [Sc.dec] at hQ
   exact hQ σ w [] (Ag.refl _ _) (Mod.refl _ _) hr .nil rfl hb
 | tags f =>
   intro hok sp off nv nt nb B base S s pre post σ w Q hO hE ls hnt hs hpre hr hrb hB hS hg hgn hb hQ
   simp only [Sc.dec] at hQ
   simp only [Sc.nv] at hnt
   have lb:=hE.lb
   simp only [Sc.gen]
   cases hf:E.hasFx with
   | false =>
     have h0:=hE.h0 hf
     subst h0
     simp only [Bool.false_eq_true,if_false] at hQ ⊢
     exact hQ σ w [[.map none]] (Ag.refl _ _) (Mod.refl _ _) hr (.cons .tag0 .nil) rfl hb
   | true =>
     have lf:=hE.lf hf
     simp only [if_true,wpL]
     rw [wpC_seq,kD]
     refine kC (v:=.bool x) (congrArg some (hE.hx hf)) ?_
     refine kE ?_
     have hag:Ag nv σ (updo σ (some nt) (.bool x)):=(Ag.refl _ _).upd (by omega)
     cases x with
     | false =>
       rw [kG (by simp only [ev,updo,upd,if_true]),wpC_skip]
       simp only [Bool.false_eq_true,if_false] at hQ
       exact hQ _ w [[.map none]] hag (Mod.refl _ _) hr (.cons .tag0 .nil) rfl hb
     | true =>
       rw [kI (by simp only [ev,updo,upd,if_true])]
       simp only [if_true] at hQ
       have hb':Blk w B (pre++([Value.map none]++post)):=by simpa [Sc.dcs] using hb
       refine rdF_wp (old:=[.map none]) (hO rfl) ((hag sp ls).trans hs) ((hag E.b lb).trans hE.hb) (by omega) (by omega) hr hrb hB hS hb' hpre rfl (fun O v w h => ⟨h.1,h.2.oneCell⟩) fun σ' w1 w' v a' hv m1 m2 hr' hbl => ?_
       have hl:v.cells.toList.length=1:=by simpa using hv.1
       refine hQ σ' w' [v.cells.toList] (fun j hj => (a' j (by omega)).trans (hag j hj)) ((m1.mono (by simp)).trans (m2.mono (by simp))) hr' (.cons (hv.2.mod m2 (by simpa using .inr hB)) .nil) (by simp [Sc.dcs,hl]) (by simpa using hbl)
 | uid vc f rest ih =>
   intro hok sp off nv nt nb B base S s pre post σ w Q hO hE ls hnt hs hpre hr hrb hB hS hg hgn hb hQ
   have ih:=ih hok
   obtain ⟨hR,hO⟩:=hO
   simp only [Sc.nv] at hnt
   simp only [Sc.dcs,List.flatten_cons] at hb
   have lb:=hE.lb
   have h16:(u8s (List.replicate 16 0)).length=16:=by rfl
   refine uT (old:=u8s (List.replicate 16 0)) ih hO hE ls (nv':=nv+1) (by omega) (by omega) hs hpre hrb hB hS hg hgn h16 (fun Q' hQ' => ?_) (by simpa only [Sc.dec,Sc.dcs,List.flatten_cons] using hQ)
   rw [List.append_assoc] at hb
   refine VC.kBQ hE (by omega) (fun hv σ1 a1 => ?_) fun hv σ1 a1 => ?_
   ·rw [if_pos hv] at hQ'
    refine uidR_wp (old:=u8s (List.replicate 16 0)) hR ((a1 sp (by omega)).trans hs) ((a1 E.b (by omega)).trans hE.hb) ls lb (by omega) hr hrb hB hS hb hpre h16 fun σ' w' cs a' hm' hr' hrep hl hb' => ?_
    exact hQ' σ' w' cs (fun j hj => (a' j hj).trans (a1 j (by omega))) hm' hr' hrep hl hb'
   ·rw [if_neg (by simp [hv])] at hQ'
    exact hQ' σ1 w _ (fun j hj => a1 j (by omega)) (Mod.refl _ _) hr .arr h16 hb
 | vst vc V r1 r2 rest ih =>
   intro hok sp off nv nt nb B base S s pre post σ w Q hO hE ls hnt hs hpre hr hrb hB hS hg hgn hb hQ
   have ih:=ih hok
   obtain ⟨hR1,hR2,hst,hO⟩:=hO
   simp only [Sc.nv] at hnt
   simp only [Sc.dcs,List.flatten_cons] at hb
   refine uT (old:=[.pointer none]) ih hO hE ls (nv':=nv+2) (by omega) (by omega) hs hpre hrb hB hS hg hgn rfl (fun Q' hQ' => ?_) (by simpa only [Sc.dec,Sc.dcs,List.flatten_cons] using hQ)
   rw [List.append_assoc] at hb
   refine VC.kBQ hE (by omega) (fun hv σ1 a1 => ?_) fun hv σ1 a1 => ?_
   ·rw [if_pos hv] at hQ'
    have hE1:=hE.ag (a1.mono (m:=nv) (by omega)) (Nat.le_refl _)
    refine vstF_wp hR1 hR2 hst hE1 ls (by omega) (by rw [a1 _ (by omega)];exact hs) hr hrb hB hS hb hpre rfl fun σ' w' cs a' hm' hr' hrep hl hb' => ?_
    exact hQ' σ' w' cs (fun j hj => (a' j hj).trans (a1 j (by omega))) hm' hr' hrep hl hb'
   ·rw [if_neg (by simp [hv])] at hQ'
    exact hQ' σ1 w [.pointer none] (fun j hj => a1 j (by omega)) (Mod.refl _ _) hr .nstr0 rfl hb
 | prm vc init r p d rest ih =>
   intro hok sp off nv nt nb B base S s pre post σ w Q hO hE ls hnt hs hpre hr hrb hB hS hg hgn hb hQ
   have ih:=ih hok
   obtain ⟨hR,hpd,hO⟩:=hO
   simp only [Sc.nv] at hnt
   simp only [Sc.dcs,List.flatten_cons] at hb
   have hBrb:B≠rb:=fun e => hrb (e▸hB)
   refine uT (old:=d.cells) ih hO hE ls (nv':=nv+1) (by omega) (by omega) hs hpre hrb hB hS hg hgn d.xA (fun Q' hQ' => ?_) (by simpa only [Sc.dec,Sc.dcs,List.flatten_cons] using hQ)
   rw [List.append_assoc] at hb
   refine VC.kBQ hE (by omega) (fun hv σ1 a1 => ?_) fun hv σ1 a1 => ?_
   ·rw [if_pos hv] at hQ'
    rw [yB]
    refine kKS fun σ2 a2 => ?_
    simp only [wpL]
    have g2:Ag nv σ σ2:=fun j hj => by rw [a2 j (by omega)];exact a1 j (by omega)
    refine VR.wp r _ _ w (hE.ag g2 (Nat.le_refl _)) (by omega) (by omega) hR hr hrb hS fun σ3 w3 v a3 v3 hv3 hr3 hm3 => ?_
    obtain ⟨hv1,hv2⟩:=hv3
    simp only [kF]
    have g3:Ag nv σ σ3:=fun j hj => by rw [a3 j (by omega) (by omega)];exact g2 j hj
    refine kGJ (old:=d.cells) (by rw [g3 _ ls];exact hs) v3 (hb.mod hm3 (by simpa using hBrb)) hpre (by rw [hv1,hpd]) d.xA hv2.oneCell (by omega) (by omega) fun σ4 w4 a4 hm4 hb4 => ?_
    refine hQ' σ4 w4 v.cells.toList (fun j hj => by rw [a4 j (by omega)];exact g3 j hj) ((hm3.mono (by simp)).trans (hm4.mono (by simp))) (hr3.mod hm4 (by simpa using hBrb.symm) (by simpa using hB))
     (hv2.mod hm4 (by simpa using .inr hB)) (by rw [←hpd,←hv1];simp) hb4
   ·rw [if_neg (by simp [hv])] at hQ'
    exact hQ' σ1 w d.cells (fun j hj => a1 j (by omega)) (Mod.refl _ _) hr (d.rep _ _) d.xA hb
 | enm vc init r p d rest ih =>
   intro hok sp off nv nt nb B base S s pre post σ w Q hO hE ls hnt hs hpre hr hrb hB hS hg hgn hb hQ
   have ih:=ih hok
   obtain ⟨hR,hpd,hO⟩:=hO
   simp only [Sc.nv] at hnt
   simp only [Sc.dcs,List.flatten_cons] at hb
   have hBrb:B≠rb:=fun e => hrb (e▸hB)
   refine uT (old:=d.cells) ih hO hE ls (nv':=nv+3) (by omega) (by omega) hs hpre hrb hB hS hg hgn d.xA (fun Q' hQ' => ?_) (by simpa only [Sc.dec,Sc.dcs,List.flatten_cons] using hQ)
   rw [List.append_assoc] at hb
   refine VC.kBQ hE (by omega) (fun hv σ1 a1 => ?_) fun hv σ1 a1 => ?_
   ·rw [if_pos hv] at hQ'
    rw [yB]
    simp only [wpL]
    refine kJM ?_
    simp only [kF]
    rw [yB]
    simp only [wpL]
    have g2:Ag nv σ (upd σ1 nv init):=fun j hj => by rw [upd_ne _ _ (by omega)];exact a1 j (by omega)
    refine VR.wp r _ _ w (hE.ag g2 (Nat.le_refl _)) (by omega) (by omega) hR hr hrb hS fun σ3 w3 v a3 v3 hv3 hr3 hm3 => ?_
    obtain ⟨hv1,hv2⟩:=hv3
    simp only [kF]
    have g3:Ag nv σ σ3:=fun j hj => by rw [a3 j (by omega) (by omega)];exact g2 j hj
    refine kDH (by omega) fun σ5 a5 v5 => ?_
    simp only [kF]
    refine kDH (by omega) fun σ6 a6 v6 => ?_
    simp only [kF]
    have g6:Ag nv σ σ6:=fun j hj => by rw [a6 j (by omega) (by omega),a5 j (by omega) (by omega)];exact g3 j hj
    refine kGJ (old:=d.cells) (by rw [g6 _ ls];exact hs) (by rw [v6,v5];exact v3) (hb.mod hm3 (by simpa using hBrb)) hpre (by rw [hv1,hpd]) d.xA hv2.oneCell (by omega) (by omega) fun σ4 w4 a4 hm4 hb4 => ?_
    refine hQ' σ4 w4 v.cells.toList (fun j hj => by rw [a4 j (by omega)];exact g6 j hj) ((hm3.mono (by simp)).trans (hm4.mono (by simp))) (hr3.mod hm4 (by simpa using hBrb.symm) (by simpa using hB))
     (hv2.mod hm4 (by simpa using .inr hB)) (by rw [←hpd,←hv1];simp) hb4
   ·rw [if_neg (by simp [hv])] at hQ'
    exact hQ' σ1 w d.cells (fun j hj => a1 j (by omega)) (Mod.refl _ _) hr (d.rep _ _) d.xA hb
 | lsp vc len bytes d init r p rest ih =>
   intro hok sp off nv nt nb B base S s pre post σ w Q hO hE ls hnt hs hpre hr hrb hB hS hg hgn hb hQ
   have hok:=hok rfl
   have ih:=ih fun _ => hok
   obtain ⟨hL,hby,hR,hpd,hO⟩:=hO
   simp only [Sc.nv] at hnt
   simp only [Sc.dcs,List.flatten_cons] at hb
   refine uT (old:=[.slice none 0 0]) ih hO hE ls (nv':=nv+5) (by omega) (by omega) hs hpre hrb hB hS hg hgn rfl (fun Q' hQ' => ?_) (by simpa only [Sc.dec,Sc.dcs,List.flatten_cons] using hQ)
   rw [List.append_assoc] at hb
   refine VC.kBQ hE (by omega) (fun hv σ1 a1 => ?_) fun hv σ1 a1 => ?_
   ·rw [if_pos hv] at hQ'
    have hE1:=hE.ag (a1.mono (m:=nv) (by omega)) (Nat.le_refl _)
    refine kM3 (el:=fun s => some (D.prim p x s)) hok hcpl hsh hE1 ls (by omega) (by rw [a1 _ (by omega)];exact hs) hpre hr hrb hB hS hg hgn hb hL hby ?_ ?_
    ·intro σ0 w0 A c n g0 v0 hm0 hA hA2
     rw [d.kBR]
     exact elemP (hE1.ag g0 (Nat.le_refl _)) v0 (by omega) (hpd▸hR) d.kBR (by simp only [List.mem_cons,not_or];exact ⟨fun e => by have:=hr.lt;omega,hrb⟩)
      (fun y hy => by rcases List.mem_cons.1 hy with rfl|hy
                      ·exact hA2
                      ·exact Nat.lt_of_lt_of_le (hS y hy) hm0.size)
    ·rw [d.kBR]
     cases hd:kAJ D x bytes ver d.size (fun s => some (D.prim p x s)) s with
     | none => rw [hd] at hQ';exact hQ'
     | some q =>
       obtain ⟨gv,s'⟩:=q
       rw [hd] at hQ'
       intro σ' w' v a' hm' hr' hrep' hb'
       exact hQ' σ' w' [v] (fun j hj => by rw [a' j hj];exact a1 j (by omega)) hm' hr' hrep' rfl hb'
   ·rw [if_neg (by simp [hv])] at hQ'
    exact hQ' σ1 w [.slice none 0 0] (fun j hj => a1 j (by omega)) (Mod.refl _ _) hr .lst0 rfl hb
 | lss vc len bytes z dfl body rest ihb ih =>
   intro hok sp off nv nt nb B base S s pre post σ w Q hO hE ls hnt hs hpre hr hrb hB hS hg hgn hb hQ
   have hok:=hok rfl
   have ih:=ih fun _ => hok
   have ihb:=ihb fun _ => hok
   obtain ⟨hL,hby,hz,hD,hOb,hO⟩:=hO
   simp only [Sc.nv] at hnt
   simp only [Sc.dcs,List.flatten_cons] at hb
   refine uT (old:=[.slice none 0 0]) ih hO hE ls (nv':=nv+(6+body.nv)) (by omega) (by omega) hs hpre hrb hB hS hg hgn rfl (fun Q' hQ' => ?_) (by simpa only [Sc.dec,Sc.dcs,List.flatten_cons] using hQ)
   rw [List.append_assoc] at hb
   refine VC.kBQ hE (by omega) (fun hv σ1 a1 => ?_) fun hv σ1 a1 => ?_
   ·rw [if_pos hv] at hQ'
    have hE1:=hE.ag (a1.mono (m:=nv) (by omega)) (Nat.le_refl _)
    refine kM3 (el:=fun s => rcdD (body.dec D ver x s)) hok hcpl hsh hE1 ls (by omega) (by rw [a1 _ (by omega)];exact hs) hpre hr hrb hB hS hg hgn hb hL hby ?_ ?_
    ·intro σ0 w0 A c n g0 v0 hm0 hA hA2
     have hgn':=hgn
     simp only [List.mem_cons,not_or] at hgn
     refine elemS ihb hOb (hE1.ag g0 (Nat.le_refl _)) v0 (by omega) hz hD (by simp only [List.mem_cons,not_or];exact ⟨fun e => by have:=hr.lt;omega,hrb⟩)
      (fun y hy => by rcases List.mem_cons.1 hy with rfl|hy
                      ·exact hA2
                      ·exact Nat.lt_of_lt_of_le (hS y hy) hm0.size) (zH hg hm0 (by simpa using hgn.1)) ?_
     simp only [List.mem_cons,not_or]
     exact ⟨hgn.1,fun e => by have:g<w.heap.size:=World.block_lt_of_cell? w ⟨g,0,none⟩ hg;omega,hgn.2⟩
    ·rw [hz]
     cases hd:kAJ D x bytes ver body.size (fun s => rcdD (body.dec D ver x s)) s with
     | none => rw [hd] at hQ';exact hQ'
     | some q =>
       obtain ⟨gv,s'⟩:=q
       rw [hd] at hQ'
       intro σ' w' v a' hm' hr' hrep' hb'
       exact hQ' σ' w' [v] (fun j hj => by rw [a' j hj];exact a1 j (by omega)) hm' hr' hrep' rfl hb'
   ·rw [if_neg (by simp [hv])] at hQ'
    exact hQ' σ1 w [.slice none 0 0] (fun j hj => a1 j (by omega)) (Mod.refl _ _) hr .lst0 rfl hb
 | sub vc dfl body rest ihb ih =>
   intro hok sp off nv nt nb B base S s pre post σ w Q hO hE ls hnt hs hpre hr hrb hB hS hg hgn hb hQ
   have ih:=ih fun h => hok (by simp [Sc.lists,h])
   have ihb:=ihb fun h => hok (by simp [Sc.lists,h])
   obtain ⟨hD,hOb,hO⟩:=hO
   simp only [Sc.nv] at hnt
   simp only [Sc.dcs,List.flatten_cons] at hb
   have hBrb:B≠rb:=fun e => hrb (e▸hB)
   refine uT (old:=body.dcs.flatten) ih hO hE ls (nv':=nv+(2+body.nv)) (by omega) (by omega) hs hpre hrb hB hS hg hgn rfl (fun Q' hQ' => ?_) (by simpa only [Sc.dec,Sc.dcs,List.flatten_cons] using hQ)
   rw [List.append_assoc] at hb
   refine VC.kBQ hE (by omega) (fun hv σ1 a1 => ?_) fun hv σ1 a1 => ?_
   ·rw [if_pos hv] at hQ'
    rw [yB]
    have hs1:σ1 sp=.pointer (some ⟨B,base,none⟩):=by rw [a1 _ (by omega)];exact hs
    simp only [List.cons_append,List.nil_append,wpL,wpC,wpR,RI.wp,gOk,if_true,RK.run,ev,updo,kF]
    simp only [upd,if_true,hs1,Addr.kK,List.map_cons,List.map_nil,ev]
    have hcall:=hD w B pre (rest.dcs.flatten++post) hb
    rw [hpre] at hcall
    refine hcall.mono ?_
    rintro e w2 ⟨rfl,hb2,hm2⟩
    refine ⟨_,rfl,?_⟩
    refine kDH (by omega) fun σ3 a3 v3 => ?_
    simp only [kF]
    have g3:Ag nv σ σ3:=by
     intro j hj
     rw [a3 j (by omega) (by omega)]
     simp only [upd,show j≠nv by omega,show j≠nt+vc.nt by omega,show j≠nt+vc.nt+1 by omega,show j≠nt+vc.nt+2 by omega,show j≠nt+vc.nt+3 by omega,show j≠nt+vc.nt+4 by omega,if_false]
     exact a1 j (by omega)
    have hgm:g ∉ [B]:=by
     simp only [List.mem_cons,not_or,List.not_mem_nil,not_false_eq_true,and_true] at hgn ⊢
     exact fun e => hgn.2 (e▸hB)
    refine kM4 ihb hOb (B:=B) (base:=base+off) (S:=S) (hE.ag g3 (by omega)) (by omega) (by omega) ?_ hpre (hr.mod hm2 (by simpa using hBrb.symm) (by simpa using hB)) hrb hB
     (fun y hy => Nat.lt_of_lt_of_le (hS y hy) hm2.size) (zH hg hm2 hgm) hgn hb2 ?_
    ·rw [v3];simp only [upd,show nv≠nt+vc.nt+3 by omega,show nv≠nt+vc.nt+4 by omega,if_false,if_true]
    ·cases hd:rcdD (body.dec D ver x s) with
     | none =>
       rw [hd] at hQ'
       intro σ' w' hm' hret
       exact hQ' σ' w' ((hm2.mono (by simp)).trans hm') hret
     | some q =>
       obtain ⟨gv,s'⟩:=q
       rw [hd] at hQ'
       intro σ' w' cs a' hm' hr' hrep' hl' hb'
       exact hQ' σ' w' cs (fun j hj => by rw [a' j (by omega)];exact g3 j hj) ((hm2.mono (by simp)).trans hm') hr' hrep' hl' hb'
   ·rw [if_neg (by simp [hv])] at hQ'
    exact hQ' σ1 w body.dcs.flatten (fun j hj => a1 j (by omega)) (Mod.refl _ _) hr (.rcd (body.drep _ _)) rfl hb
end
structure Top where
 rv:Option FuncId
 flex:Option Int
 dfl:FuncId
 ok:FuncId
 cpl:FuncId
 sc:Sc
 deriving Inhabited
def Top.env (T:Top):RE:=⟨7,8,9,2,6,T.flex.isSome,T.ok,T.cpl⟩
def Top.nv (T:Top):Nat:=if T.flex.isSome then 11 else 10
def Top.t0 (T:Top):Nat:=T.nv+T.sc.nv
def Top.t1 (T:Top):Nat:=T.t0+(if T.rv.isSome then 8 else 4)
def Top.t2 (T:Top):Nat:=T.t1+(if T.flex.isSome then 8 else 5)
def Top.flexF (T:Top):List IC :=
 match T.flex with
 | some n=>[.blk [⟨some (T.t1+5),.mv (.tmp 8),none⟩,⟨some (T.t1+6),.bin .geq (.tmp (T.t1+5)) (.const (.int .i16 n)),none⟩,⟨some 9,.mv (.tmp (T.t1+6)),none⟩],.blk [⟨some (T.t1+7),.mv (.tmp 9),none⟩]]
 | none=>[]
def Top.verF (T:Top):List IC :=
 match T.rv with
 | some f=>[rdF 0 7 (T.t0+4) 0 f]
 | none=>[]
def Top.gen (T:Top):IC×List RV×Nat :=
 (seqs ([cF 6 .nilIface,.blk [⟨some T.t0,.mv (.tmp 0),none⟩,⟨some (T.t0+1),.call T.dfl [.tmp T.t0],none⟩],
 .blk [⟨some (T.t0+2),.mv (.tmp 1),none⟩,⟨some (T.t0+3),.build [.slice none 0 0,.bool false] [(0,1,.tmp (T.t0+2))],none⟩,⟨some 7,.alloc [.slice none 0 0,.bool false],none⟩,⟨none,.st (.tmp 7) 2 (.tmp (T.t0+3)),none⟩]] ++
 (T.verF++([ldF 0 8 T.t1 0,.blk [⟨some (T.t1+4),.mv (.tmp 8),none⟩]]++(T.flexF++([cpF 0 (T.nv-1) T.t2] ++
 (T.sc.gen T.env (T.nv-1) 1 T.nv (T.t2+1) 0 ++
 [.blk [⟨some (T.t2+1+T.sc.nt T.flex.isSome),.call T.cpl [.tmp 7],none⟩,⟨some 6,.mv (.tmp (T.t2+1+T.sc.nt T.flex.isSome)),none⟩],.ret])))))),
 [.tmp 6],T.t2+2+T.sc.nt T.flex.isSome)
def Top.x (T:Top) (ver:Int):Bool:=match T.flex with|some n=>decide (ver≥n)|none=>false
section
variable {P:Program} {D:Dec}
theorem mkRd_wp {t:Nat} {σ:Sl} {w:World} {v:Value} {Q:Exit→Sl→World→Prop} (hv:σ 1=v) (h1:v.cells.size=1) (h2 :∀y∈v.cells.toList,y.oneCell'=true) (lt:8≤t)
  (hQ :∀σ' w',(∀j,j<t→j≠7→σ' j=σ j)→σ' 7=.pointer (some ⟨w.heap.size,0,none⟩)→Blk w' w.heap.size (v.cells.toList++[.bool false])→Mod [] w w'→Q .normal σ' w') :
  wpC P (.blk [⟨some t,.mv (.tmp 1),none⟩,⟨some (t+1),.build [.slice none 0 0,.bool false] [(0,1,.tmp t)],none⟩,⟨some 7,.alloc [.slice none 0 0,.bool false],none⟩,⟨none,.st (.tmp 7) 2 (.tmp (t+1)),none⟩]) Q σ w:=by
 have hl:v.cells.toList.length=1:=by simpa using h1
 simp only [wpC,wpR,RI.wp,gOk,if_true,RK.run,ev,updo,List.map_cons,List.map_nil,zW,upd_same,hv]
 rw [if_pos ⟨h1,by simp⟩]
 have e1:splice [Value.slice none 0 0,.bool false] 0 v.cells.toList=v.cells.toList++[.bool false]:=by
  simp [splice,hl]
 simp only [e1]
 intro T
 have ec :∀cs,(Value.agg cs).cells=cs:=fun _=>rfl
 simp only [upd,if_true,show t+1≠7 by omega,if_false,ec]
 obtain ⟨k1,k2,k3⟩:=wV w [.slice none 0 0,.bool false] (v.cells.toList++[.bool false]) T (by simp [hl]) (by
  intro y hy
  rcases List.mem_append.1 hy with hy|hy
  ·exact h2 y hy
  ·simp only [List.mem_singleton] at hy;subst hy;rfl)
 refine ⟨by simp [h1],k1,hQ _ _ ?_ ?_ k2 k3⟩
 ·intro j hj hne
  simp only [upd,hne,show j≠t by omega,show j≠t+1 by omega,if_false]
 ·simp only [upd,if_true]
theorem kPB {t x:Nat} {f:FuncId} {σ:Sl} {w:World} {v:Value} {R:Ending→World→Prop} {Q:Exit→Sl→World→Prop} (hx:σ x=v) (hc:Calls P f [v].toArray w R)
 (hQ :∀e w',R e w' →∃u,e=.returned u ∧∀σ',Ag t σ σ'→Q .normal σ' w'):wpC P (.blk [⟨some t,.mv (.tmp x),none⟩,⟨some (t+1),.call f [.tmp t],none⟩]) Q σ w:=by
 simp only [wpC,wpR,RI.wp,gOk,if_true,RK.run,ev,updo,List.map_cons,List.map_nil,upd_same,hx]
 refine hc.mono fun e w' hR=>?_
 obtain ⟨u,rfl,h⟩:=hQ e w' hR
 refine ⟨u,rfl,h _ fun j hj=>?_⟩
 simp only [upd,show j≠t by omega,show j≠t+1 by omega,if_false]
theorem mvF_wp {t x:Nat} {σ:Sl} {w:World} {Q:Exit→Sl→World→Prop} (hQ :∀σ',Ag t σ σ'→Q .normal σ' w):wpC P (.blk [⟨some t,.mv (.tmp x),none⟩]) Q σ w:=by
 simp only [wpC,wpR,RI.wp,gOk,if_true,RK.run,ev,updo]
 exact hQ _ fun j hj=>by simp only [upd,show j≠t by omega,if_false]
end
end Go.Msk
namespace Go.Msk
def ir_rBool (_F:Nat→Nat):IC×List RV×Nat:=(.seq (.blk [⟨some 2,.mv (.const (.bool false)),none⟩]) (.seq (.seq (.blk [⟨some 4,.mv (.tmp 0),none⟩,⟨some 5,.nilc (.tmp 4),none⟩,
 ⟨some 6,.fad (.tmp 5) 0,none⟩,⟨some 7,.ld (.tmp 6),none⟩,⟨some 8,.len (.tmp 7),none⟩,⟨some 9,.bin .lss (.tmp 8) (.const (.int .i64 1)),none⟩]) (.cond (.tmp 9)
 (.seq (.blk [⟨some 10,.mv (.tmp 0),none⟩,⟨some 11,.nilc (.tmp 10),none⟩,⟨some 12,.fad (.tmp 11) 1,none⟩,⟨none,.st (.tmp 12) 1 (.const (.bool true)),none⟩])
 (.seq (.blk [⟨some 13,.mv (.tmp 0),none⟩,⟨some 14,.nilc (.tmp 13),none⟩,⟨some 15,.fad (.tmp 14) 0,none⟩,⟨none,.st (.tmp 15) 1 (.const (.slice none 0 0)),none⟩])
 (.seq (.blk [⟨some 2,.mv (.const (.bool false)),none⟩]) (.ret)))) (.skip))) (.seq (.blk [⟨some 16,.mv (.tmp 0),none⟩,⟨some 17,.nilc (.tmp 16),none⟩,
 ⟨some 18,.fad (.tmp 17) 0,none⟩,⟨some 19,.ld (.tmp 18),none⟩,⟨some 20,.iad (.tmp 19) (.const (.int .i64 0)) 1,none⟩,⟨some 21,.ld (.tmp 20),none⟩,
 ⟨some 22,.bin .neq (.tmp 21) (.const (.int .u8 0)),none⟩,⟨some 3,.mv (.tmp 22),none⟩]) (.seq (.blk [⟨some 23,.mv (.tmp 0),none⟩,⟨some 24,.mv (.tmp 0),none⟩,
 ⟨some 25,.nilc (.tmp 24),none⟩,⟨some 26,.fad (.tmp 25) 0,none⟩,⟨some 27,.ld (.tmp 26),none⟩,⟨some 28,.slice (.tmp 27) (some (.const (.int .i64 1))) none none 1,none⟩,
 ⟨some 29,.nilc (.tmp 23),none⟩,⟨some 30,.fad (.tmp 29) 0,none⟩,⟨none,.st (.tmp 30) 1 (.tmp 28),none⟩]) (.seq (.blk [⟨some 31,.mv (.tmp 3),none⟩,⟨some 2,.mv (.tmp 31),none⟩])
 (.ret))))),[.tmp 2],32)
def ir_rInt8 (_F:Nat→Nat):IC×List RV×Nat:=(.seq (.blk [⟨some 2,.mv (.const (.int .i8 0)),none⟩]) (.seq (.seq (.blk [⟨some 4,.mv (.tmp 0),none⟩,⟨some 5,.nilc (.tmp 4),none⟩,
 ⟨some 6,.fad (.tmp 5) 0,none⟩,⟨some 7,.ld (.tmp 6),none⟩,⟨some 8,.len (.tmp 7),none⟩,⟨some 9,.bin .lss (.tmp 8) (.const (.int .i64 1)),none⟩]) (.cond (.tmp 9)
 (.seq (.blk [⟨some 10,.mv (.tmp 0),none⟩,⟨some 11,.nilc (.tmp 10),none⟩,⟨some 12,.fad (.tmp 11) 1,none⟩,⟨none,.st (.tmp 12) 1 (.const (.bool true)),none⟩])
 (.seq (.blk [⟨some 13,.mv (.tmp 0),none⟩,⟨some 14,.nilc (.tmp 13),none⟩,⟨some 15,.fad (.tmp 14) 0,none⟩,⟨none,.st (.tmp 15) 1 (.const (.slice none 0 0)),none⟩])
 (.seq (.blk [⟨some 2,.mv (.const (.int .i8 0)),none⟩]) (.ret)))) (.skip))) (.seq (.blk [⟨some 16,.mv (.tmp 0),none⟩,⟨some 17,.nilc (.tmp 16),none⟩,
 ⟨some 18,.fad (.tmp 17) 0,none⟩,⟨some 19,.ld (.tmp 18),none⟩,⟨some 20,.iad (.tmp 19) (.const (.int .i64 0)) 1,none⟩,⟨some 21,.ld (.tmp 20),none⟩,⟨some 3,.mv (.tmp 21),none⟩])
 (.seq (.blk [⟨some 22,.mv (.tmp 0),none⟩,⟨some 23,.mv (.tmp 0),none⟩,⟨some 24,.nilc (.tmp 23),none⟩,⟨some 25,.fad (.tmp 24) 0,none⟩,⟨some 26,.ld (.tmp 25),none⟩,
 ⟨some 27,.slice (.tmp 26) (some (.const (.int .i64 1))) none none 1,none⟩,⟨some 28,.nilc (.tmp 22),none⟩,⟨some 29,.fad (.tmp 28) 0,none⟩,⟨none,.st (.tmp 29) 1 (.tmp 27),none⟩])
 (.seq (.blk [⟨some 30,.mv (.tmp 3),none⟩,⟨some 31,.conv .i8 (.tmp 30),none⟩,⟨some 2,.mv (.tmp 31),none⟩]) (.ret))))),[.tmp 2],32)
def ir_rUint16 (F:Nat→Nat):IC×List RV×Nat:=(.seq (.blk [⟨some 2,.mv (.const (.int .u16 0)),none⟩]) (.seq (.seq (.blk [⟨some 4,.mv (.tmp 0),none⟩,⟨some 5,.nilc (.tmp 4),none⟩,
 ⟨some 6,.fad (.tmp 5) 0,none⟩,⟨some 7,.ld (.tmp 6),none⟩,⟨some 8,.len (.tmp 7),none⟩,⟨some 9,.bin .lss (.tmp 8) (.const (.int .i64 2)),none⟩]) (.cond (.tmp 9)
 (.seq (.blk [⟨some 10,.mv (.tmp 0),none⟩,⟨some 11,.nilc (.tmp 10),none⟩,⟨some 12,.fad (.tmp 11) 1,none⟩,⟨none,.st (.tmp 12) 1 (.const (.bool true)),none⟩])
 (.seq (.blk [⟨some 13,.mv (.tmp 0),none⟩,⟨some 14,.nilc (.tmp 13),none⟩,⟨some 15,.fad (.tmp 14) 0,none⟩,⟨none,.st (.tmp 15) 1 (.const (.slice none 0 0)),none⟩])
 (.seq (.blk [⟨some 2,.mv (.const (.int .u16 0)),none⟩]) (.ret)))) (.skip))) (.seq (.drw [⟨⟨some 16,.ldn (.global (F gBig)) 0,none⟩,false,[]⟩,
 ⟨⟨some 17,.mv (.tmp 0),none⟩,false,[]⟩,⟨⟨some 18,.nilc (.tmp 17),none⟩,false,[]⟩,⟨⟨some 19,.fad (.tmp 18) 0,none⟩,false,[]⟩,⟨⟨some 20,.ld (.tmp 19),none⟩,false,[]⟩,
 ⟨⟨some 21,.call (F zC) [.tmp 16,.tmp 20],none⟩,true,[]⟩,⟨⟨some 3,.mv (.tmp 21),none⟩,false,[5]⟩] []) (.seq (.blk [⟨some 22,.mv (.tmp 0),none⟩,⟨some 23,.mv (.tmp 0),none⟩,
 ⟨some 24,.nilc (.tmp 23),none⟩,⟨some 25,.fad (.tmp 24) 0,none⟩,⟨some 26,.ld (.tmp 25),none⟩,⟨some 27,.slice (.tmp 26) (some (.const (.int .i64 2))) none none 1,none⟩,
 ⟨some 28,.nilc (.tmp 22),none⟩,⟨some 29,.fad (.tmp 28) 0,none⟩,⟨none,.st (.tmp 29) 1 (.tmp 27),none⟩]) (.seq (.blk [⟨some 30,.mv (.tmp 3),none⟩,⟨some 2,.mv (.tmp 30),none⟩])
 (.ret))))),[.tmp 2],31)
def ir_rInt64 (F:Nat→Nat):IC×List RV×Nat:=(.seq (.blk [⟨some 2,.mv (.const (.int .i64 0)),none⟩]) (.seq (.blk [⟨some 3,.mv (.tmp 0),none⟩,⟨some 4,.call (F jT) [.tmp 3],none⟩,
 ⟨some 5,.conv .i64 (.tmp 4),none⟩,⟨some 2,.mv (.tmp 5),none⟩]) (.ret)),[.tmp 2],6)
def ir_rReadUint64 (F:Nat→Nat):IC×List RV×Nat:=(.seq (.blk [⟨some 2,.mv (.const (.int .u64 0)),none⟩]) (.seq (.seq (.blk [⟨some 4,.mv (.tmp 0),none⟩,⟨some 5,.nilc (.tmp 4),none⟩,
 ⟨some 6,.fad (.tmp 5) 0,none⟩,⟨some 7,.ld (.tmp 6),none⟩,⟨some 8,.len (.tmp 7),none⟩,⟨some 9,.bin .lss (.tmp 8) (.const (.int .i64 8)),none⟩]) (.cond (.tmp 9)
 (.seq (.blk [⟨some 10,.mv (.tmp 0),none⟩,⟨some 11,.nilc (.tmp 10),none⟩,⟨some 12,.fad (.tmp 11) 1,none⟩,⟨none,.st (.tmp 12) 1 (.const (.bool true)),none⟩])
 (.seq (.blk [⟨some 13,.mv (.tmp 0),none⟩,⟨some 14,.nilc (.tmp 13),none⟩,⟨some 15,.fad (.tmp 14) 0,none⟩,⟨none,.st (.tmp 15) 1 (.const (.slice none 0 0)),none⟩])
 (.seq (.blk [⟨some 2,.mv (.const (.int .u64 0)),none⟩]) (.ret)))) (.skip))) (.seq (.drw [⟨⟨some 16,.ldn (.global (F gBig)) 0,none⟩,false,[]⟩,
 ⟨⟨some 17,.mv (.tmp 0),none⟩,false,[]⟩,⟨⟨some 18,.nilc (.tmp 17),none⟩,false,[]⟩,⟨⟨some 19,.fad (.tmp 18) 0,none⟩,false,[]⟩,⟨⟨some 20,.ld (.tmp 19),none⟩,false,[]⟩,
 ⟨⟨some 21,.call (F xG) [.tmp 16,.tmp 20],none⟩,true,[]⟩,⟨⟨some 3,.mv (.tmp 21),none⟩,false,[5]⟩] []) (.seq (.blk [⟨some 22,.mv (.tmp 0),none⟩,⟨some 23,.mv (.tmp 0),none⟩,
 ⟨some 24,.nilc (.tmp 23),none⟩,⟨some 25,.fad (.tmp 24) 0,none⟩,⟨some 26,.ld (.tmp 25),none⟩,⟨some 27,.slice (.tmp 26) (some (.const (.int .i64 8))) none none 1,none⟩,
 ⟨some 28,.nilc (.tmp 22),none⟩,⟨some 29,.fad (.tmp 28) 0,none⟩,⟨none,.st (.tmp 29) 1 (.tmp 27),none⟩]) (.seq (.blk [⟨some 30,.mv (.tmp 3),none⟩,⟨some 2,.mv (.tmp 30),none⟩])
 (.ret))))),[.tmp 2],31)
def ir_beUint64 (_F:Nat→Nat):IC×List RV×Nat:=(.seq (.blk [⟨some 2,.box (.tmp 0),none⟩,⟨some 4,.mv (.const (.int .u64 0)),none⟩]) (.seq (.blk [⟨some 5,.mv (.tmp 1),none⟩,
 ⟨some 6,.iad (.tmp 5) (.const (.int .i64 7)) 1,none⟩,⟨some 7,.ld (.tmp 6),none⟩]) (.seq (.drw [⟨⟨some 8,.mv (.tmp 1),none⟩,false,[]⟩,
 ⟨⟨some 9,.iad (.tmp 8) (.const (.int .i64 7)) 1,none⟩,false,[]⟩,⟨⟨some 10,.ld (.tmp 9),none⟩,false,[]⟩,⟨⟨some 11,.conv .u64 (.tmp 10),none⟩,false,[]⟩,
 ⟨⟨some 12,.mv (.tmp 1),none⟩,false,[]⟩,⟨⟨some 13,.iad (.tmp 12) (.const (.int .i64 6)) 1,none⟩,false,[]⟩,⟨⟨some 14,.ld (.tmp 13),none⟩,false,[]⟩,
 ⟨⟨some 15,.conv .u64 (.tmp 14),none⟩,false,[]⟩,⟨⟨some 16,.bin .shl (.tmp 15) (.const (.int .u64 8)),none⟩,false,[]⟩,⟨⟨some 17,.bin .or (.tmp 11) (.tmp 16),none⟩,false,[]⟩,
 ⟨⟨some 18,.mv (.tmp 1),none⟩,false,[]⟩,⟨⟨some 19,.iad (.tmp 18) (.const (.int .i64 5)) 1,none⟩,false,[]⟩,⟨⟨some 20,.ld (.tmp 19),none⟩,false,[]⟩,
 ⟨⟨some 21,.conv .u64 (.tmp 20),none⟩,false,[]⟩,⟨⟨some 22,.bin .shl (.tmp 21) (.const (.int .u64 16)),none⟩,false,[]⟩,⟨⟨some 23,.bin .or (.tmp 17) (.tmp 22),none⟩,false,[]⟩,
 ⟨⟨some 24,.mv (.tmp 1),none⟩,false,[]⟩,⟨⟨some 25,.iad (.tmp 24) (.const (.int .i64 4)) 1,none⟩,false,[]⟩,⟨⟨some 26,.ld (.tmp 25),none⟩,false,[]⟩,
 ⟨⟨some 27,.conv .u64 (.tmp 26),none⟩,false,[]⟩,⟨⟨some 28,.bin .shl (.tmp 27) (.const (.int .u64 24)),none⟩,false,[]⟩,⟨⟨some 29,.bin .or (.tmp 23) (.tmp 28),none⟩,false,[]⟩,
 ⟨⟨some 30,.mv (.tmp 1),none⟩,false,[]⟩,⟨⟨some 31,.iad (.tmp 30) (.const (.int .i64 3)) 1,none⟩,false,[]⟩,⟨⟨some 32,.ld (.tmp 31),none⟩,false,[]⟩,
 ⟨⟨some 33,.conv .u64 (.tmp 32),none⟩,false,[]⟩,⟨⟨some 34,.bin .shl (.tmp 33) (.const (.int .u64 32)),none⟩,false,[]⟩,⟨⟨some 35,.bin .or (.tmp 29) (.tmp 34),none⟩,false,[]⟩,
 ⟨⟨some 36,.mv (.tmp 1),none⟩,false,[]⟩,⟨⟨some 37,.iad (.tmp 36) (.const (.int .i64 2)) 1,none⟩,false,[]⟩,⟨⟨some 38,.ld (.tmp 37),none⟩,false,[]⟩,
 ⟨⟨some 39,.conv .u64 (.tmp 38),none⟩,false,[]⟩,⟨⟨some 40,.bin .shl (.tmp 39) (.const (.int .u64 40)),none⟩,false,[]⟩,⟨⟨some 41,.bin .or (.tmp 35) (.tmp 40),none⟩,false,[]⟩,
 ⟨⟨some 42,.mv (.tmp 1),none⟩,false,[]⟩,⟨⟨some 43,.iad (.tmp 42) (.const (.int .i64 1)) 1,none⟩,false,[]⟩,⟨⟨some 44,.ld (.tmp 43),none⟩,false,[]⟩,
 ⟨⟨some 45,.conv .u64 (.tmp 44),none⟩,false,[]⟩,⟨⟨some 46,.bin .shl (.tmp 45) (.const (.int .u64 48)),none⟩,false,[]⟩,⟨⟨some 47,.bin .or (.tmp 41) (.tmp 46),none⟩,false,[]⟩,
 ⟨⟨some 48,.mv (.tmp 1),none⟩,false,[]⟩,⟨⟨some 49,.iad (.tmp 48) (.const (.int .i64 0)) 1,none⟩,false,[]⟩,⟨⟨some 50,.ld (.tmp 49),none⟩,false,[]⟩,
 ⟨⟨some 51,.conv .u64 (.tmp 50),none⟩,false,[]⟩,⟨⟨some 52,.bin .shl (.tmp 51) (.const (.int .u64 56)),none⟩,false,[]⟩,⟨⟨some 53,.bin .or (.tmp 47) (.tmp 52),none⟩,false,[]⟩,
 ⟨⟨some 4,.mv (.tmp 53),none⟩,false,[]⟩] []) (.ret))),[.tmp 4],54)
def ir_rUuid (F:Nat→Nat):IC×List RV×Nat:=(.seq (.blk [⟨some 2,.alloc [.int .u8 0,.int .u8 0,.int .u8 0,.int .u8 0,.int .u8 0,.int .u8 0,.int .u8 0,.int .u8 0,.int .u8 0,.int .u8 0,.int .u8 0,.int .u8 0,.int .u8 0,.int .u8 0,.int .u8 0,.int .u8 0],none⟩])
 (.seq (.blk [⟨some 3,.alloc [.int .u8 0,.int .u8 0,.int .u8 0,.int .u8 0,.int .u8 0,.int .u8 0,.int .u8 0,.int .u8 0,.int .u8 0,.int .u8 0,.int .u8 0,.int .u8 0,.int .u8 0,.int .u8 0,.int .u8 0,.int .u8 0],none⟩])
 (.seq (.drw [⟨⟨some 4,.slicea (.tmp 3) 16,none⟩,false,[]⟩,⟨⟨some 5,.mv (.tmp 0),none⟩,false,[]⟩,⟨⟨some 6,.call (F zF) [.tmp 5,.const (.int .i64 16)],none⟩,true,[]⟩]
 [⟨some 7,.copy (.tmp 4) (.tmp 6) 1,none⟩]) (.seq (.blk [⟨some 8,.ldn (.tmp 3) 16,none⟩,⟨none,.st (.tmp 2) 16 (.tmp 8),none⟩]) (.ret)))),[.cells 2 16],9)
def ir_rUvarint (F:Nat→Nat):IC×List RV×Nat:=(.seq (.blk [⟨some 2,.mv (.const (.int .u32 0)),none⟩]) (.seq (.blk [⟨some 6,.mv (.tmp 0),none⟩,⟨some 7,.nilc (.tmp 6),none⟩,
 ⟨some 8,.fad (.tmp 7) 0,none⟩,⟨some 9,.ld (.tmp 8),none⟩,⟨some 10,.call (F qH) [.tmp 9],none⟩,⟨some 5,.mv (.tmp 10),none⟩,⟨some 11,.ext (.tmp 5) 0,none⟩,
 ⟨some 12,.ext (.tmp 5) 1,none⟩,⟨some 3,.mv (.tmp 11),none⟩,⟨some 4,.mv (.tmp 12),none⟩]) (.seq (.seq (.blk [⟨some 13,.mv (.tmp 4),none⟩,
 ⟨some 14,.bin .leq (.tmp 13) (.const (.int .i64 0)),none⟩]) (.cond (.tmp 14) (.seq (.blk [⟨some 15,.mv (.tmp 0),none⟩,⟨some 16,.nilc (.tmp 15),none⟩,
 ⟨some 17,.fad (.tmp 16) 1,none⟩,⟨none,.st (.tmp 17) 1 (.const (.bool true)),none⟩]) (.seq (.blk [⟨some 18,.mv (.tmp 0),none⟩,⟨some 19,.nilc (.tmp 18),none⟩,
 ⟨some 20,.fad (.tmp 19) 0,none⟩,⟨none,.st (.tmp 20) 1 (.const (.slice none 0 0)),none⟩]) (.seq (.blk [⟨some 2,.mv (.const (.int .u32 0)),none⟩]) (.ret)))) (.skip)))
 (.seq (.blk [⟨some 21,.mv (.tmp 0),none⟩,⟨some 22,.mv (.tmp 0),none⟩,⟨some 23,.nilc (.tmp 22),none⟩,⟨some 24,.fad (.tmp 23) 0,none⟩,⟨some 25,.ld (.tmp 24),none⟩,
 ⟨some 26,.mv (.tmp 4),none⟩,⟨some 27,.slice (.tmp 25) (some (.tmp 26)) none none 1,none⟩,⟨some 28,.nilc (.tmp 21),none⟩,⟨some 29,.fad (.tmp 28) 0,none⟩,
 ⟨none,.st (.tmp 29) 1 (.tmp 27),none⟩]) (.seq (.blk [⟨some 30,.mv (.tmp 3),none⟩,⟨some 2,.mv (.tmp 30),none⟩]) (.ret))))),[.tmp 2],31)
def ir_kUvarint (_F:Nat→Nat):IC×List RV×Nat:=(.seq (.blk [⟨some 2,.mv (.const (.int .u32 0)),none⟩,⟨some 3,.mv (.const (.int .i64 0)),none⟩])
 (.scopeTo (.seq (.blk [⟨some 4,.mv (.const (.int .u32 0)),none⟩]) (.seq (.blk [⟨some 5,.mv (.const (.int .i64 0)),none⟩]) (.seq (.seq (.blk [⟨some 6,.mv (.tmp 0),none⟩,
 ⟨some 7,.len (.tmp 6),none⟩,⟨some 8,.bin .lss (.tmp 7) (.const (.int .i64 1)),none⟩]) (.cond (.tmp 8) (.goto 0) (.skip))) (.seq (.blk [⟨some 9,.mv (.tmp 0),none⟩,
 ⟨some 10,.iad (.tmp 9) (.const (.int .i64 0)) 1,none⟩,⟨some 11,.ld (.tmp 10),none⟩,⟨some 12,.bin .and (.tmp 11) (.const (.int .u8 127)),none⟩,⟨some 13,.conv .u32 (.tmp 12),none⟩,
 ⟨some 4,.mv (.tmp 13),none⟩]) (.seq (.seq (.blk [⟨some 14,.mv (.tmp 0),none⟩,⟨some 15,.iad (.tmp 14) (.const (.int .i64 0)) 1,none⟩,⟨some 16,.ld (.tmp 15),none⟩,
 ⟨some 17,.bin .and (.tmp 16) (.const (.int .u8 128)),none⟩,⟨some 18,.bin .eql (.tmp 17) (.const (.int .u8 0)),none⟩]) (.cond (.tmp 18) (.seq (.blk [⟨some 19,.mv (.tmp 4),none⟩,
 ⟨some 2,.mv (.tmp 19),none⟩,⟨some 3,.mv (.const (.int .i64 1)),none⟩]) (.ret)) (.seq (.blk [⟨some 20,.mv (.tmp 0),none⟩,⟨some 21,.len (.tmp 20),none⟩,
 ⟨some 22,.bin .lss (.tmp 21) (.const (.int .i64 2)),none⟩]) (.cond (.tmp 22) (.goto 0) (.skip))))) (.seq (.blk [⟨some 23,.mv (.tmp 4),none⟩,⟨some 24,.mv (.tmp 0),none⟩,
 ⟨some 25,.iad (.tmp 24) (.const (.int .i64 1)) 1,none⟩,⟨some 26,.ld (.tmp 25),none⟩,⟨some 27,.bin .and (.tmp 26) (.const (.int .u8 127)),none⟩,
 ⟨some 28,.conv .u32 (.tmp 27),none⟩,⟨some 29,.bin .shl (.tmp 28) (.const (.int .u64 7)),none⟩,⟨some 30,.bin .or (.tmp 23) (.tmp 29),none⟩,⟨some 4,.mv (.tmp 30),none⟩])
 (.seq (.seq (.blk [⟨some 31,.mv (.tmp 0),none⟩,⟨some 32,.iad (.tmp 31) (.const (.int .i64 1)) 1,none⟩,⟨some 33,.ld (.tmp 32),none⟩,
 ⟨some 34,.bin .and (.tmp 33) (.const (.int .u8 128)),none⟩,⟨some 35,.bin .eql (.tmp 34) (.const (.int .u8 0)),none⟩]) (.cond (.tmp 35) (.seq (.blk [⟨some 36,.mv (.tmp 4),none⟩,
 ⟨some 2,.mv (.tmp 36),none⟩,⟨some 3,.mv (.const (.int .i64 2)),none⟩]) (.ret)) (.seq (.blk [⟨some 37,.mv (.tmp 0),none⟩,⟨some 38,.len (.tmp 37),none⟩,
 ⟨some 39,.bin .lss (.tmp 38) (.const (.int .i64 3)),none⟩]) (.cond (.tmp 39) (.goto 0) (.skip))))) (.seq (.blk [⟨some 40,.mv (.tmp 4),none⟩,⟨some 41,.mv (.tmp 0),none⟩,
 ⟨some 42,.iad (.tmp 41) (.const (.int .i64 2)) 1,none⟩,⟨some 43,.ld (.tmp 42),none⟩,⟨some 44,.bin .and (.tmp 43) (.const (.int .u8 127)),none⟩,
 ⟨some 45,.conv .u32 (.tmp 44),none⟩,⟨some 46,.bin .shl (.tmp 45) (.const (.int .u64 14)),none⟩,⟨some 47,.bin .or (.tmp 40) (.tmp 46),none⟩,⟨some 4,.mv (.tmp 47),none⟩])
 (.seq (.seq (.blk [⟨some 48,.mv (.tmp 0),none⟩,⟨some 49,.iad (.tmp 48) (.const (.int .i64 2)) 1,none⟩,⟨some 50,.ld (.tmp 49),none⟩,
 ⟨some 51,.bin .and (.tmp 50) (.const (.int .u8 128)),none⟩,⟨some 52,.bin .eql (.tmp 51) (.const (.int .u8 0)),none⟩]) (.cond (.tmp 52) (.seq (.blk [⟨some 53,.mv (.tmp 4),none⟩,
 ⟨some 2,.mv (.tmp 53),none⟩,⟨some 3,.mv (.const (.int .i64 3)),none⟩]) (.ret)) (.seq (.blk [⟨some 54,.mv (.tmp 0),none⟩,⟨some 55,.len (.tmp 54),none⟩,
 ⟨some 56,.bin .lss (.tmp 55) (.const (.int .i64 4)),none⟩]) (.cond (.tmp 56) (.goto 0) (.skip))))) (.seq (.blk [⟨some 57,.mv (.tmp 4),none⟩,⟨some 58,.mv (.tmp 0),none⟩,
 ⟨some 59,.iad (.tmp 58) (.const (.int .i64 3)) 1,none⟩,⟨some 60,.ld (.tmp 59),none⟩,⟨some 61,.bin .and (.tmp 60) (.const (.int .u8 127)),none⟩,
 ⟨some 62,.conv .u32 (.tmp 61),none⟩,⟨some 63,.bin .shl (.tmp 62) (.const (.int .u64 21)),none⟩,⟨some 64,.bin .or (.tmp 57) (.tmp 63),none⟩,⟨some 4,.mv (.tmp 64),none⟩])
 (.seq (.seq (.blk [⟨some 65,.mv (.tmp 0),none⟩,⟨some 66,.iad (.tmp 65) (.const (.int .i64 3)) 1,none⟩,⟨some 67,.ld (.tmp 66),none⟩,
 ⟨some 68,.bin .and (.tmp 67) (.const (.int .u8 128)),none⟩,⟨some 69,.bin .eql (.tmp 68) (.const (.int .u8 0)),none⟩]) (.cond (.tmp 69) (.seq (.blk [⟨some 70,.mv (.tmp 4),none⟩,
 ⟨some 2,.mv (.tmp 70),none⟩,⟨some 3,.mv (.const (.int .i64 4)),none⟩]) (.ret)) (.seq (.blk [⟨some 71,.mv (.tmp 0),none⟩,⟨some 72,.len (.tmp 71),none⟩,
 ⟨some 73,.bin .lss (.tmp 72) (.const (.int .i64 5)),none⟩]) (.cond (.tmp 73) (.goto 0) (.skip))))) (.seq (.blk [⟨some 74,.mv (.tmp 4),none⟩,⟨some 75,.mv (.tmp 0),none⟩,
 ⟨some 76,.iad (.tmp 75) (.const (.int .i64 4)) 1,none⟩,⟨some 77,.ld (.tmp 76),none⟩,⟨some 78,.conv .u32 (.tmp 77),none⟩,
 ⟨some 79,.bin .shl (.tmp 78) (.const (.int .u64 28)),none⟩,⟨some 80,.bin .or (.tmp 74) (.tmp 79),none⟩,⟨some 4,.mv (.tmp 80),none⟩])
 (.seq (.seq (.blk [⟨some 81,.mv (.tmp 0),none⟩,⟨some 82,.iad (.tmp 81) (.const (.int .i64 4)) 1,none⟩,⟨some 83,.ld (.tmp 82),none⟩,
 ⟨some 84,.bin .leq (.tmp 83) (.const (.int .u8 15)),none⟩]) (.cond (.tmp 84) (.seq (.blk [⟨some 85,.mv (.tmp 4),none⟩,⟨some 2,.mv (.tmp 85),none⟩,
 ⟨some 3,.mv (.const (.int .i64 5)),none⟩]) (.ret)) (.skip))) (.seq (.blk [⟨some 5,.mv (.const (.int .i64 (-5))),none⟩]) (.seq (.skip) (.seq (.blk [⟨some 86,.mv (.tmp 5),none⟩,
 ⟨some 2,.mv (.const (.int .u32 0)),none⟩,⟨some 3,.mv (.tmp 86),none⟩]) (.ret))))))))))))))))) 0 (.seq (.skip) (.seq (.blk [⟨some 86,.mv (.tmp 5),none⟩,
 ⟨some 2,.mv (.const (.int .u32 0)),none⟩,⟨some 3,.mv (.tmp 86),none⟩]) (.ret)))),[.tmp 2,.tmp 3],87)
def ir_rCompactString (F:Nat→Nat):IC×List RV×Nat:=(.seq (.blk [⟨some 2,.mv (.const (.string .empty)),none⟩]) (.seq (.blk [⟨some 4,.mv (.tmp 0),none⟩,
 ⟨some 5,.call (F qB) [.tmp 4],none⟩,⟨some 6,.conv .i64 (.tmp 5),none⟩,⟨some 7,.bin .sub (.tmp 6) (.const (.int .i64 1)),none⟩,⟨some 3,.mv (.tmp 7),none⟩])
 (.seq (.blk [⟨some 8,.mv (.tmp 0),none⟩,⟨some 9,.mv (.tmp 3),none⟩,⟨some 10,.call (F zF) [.tmp 8,.tmp 9],none⟩,⟨some 11,.b2s (.tmp 10),none⟩,⟨some 2,.mv (.tmp 11),none⟩])
 (.ret))),[.tmp 2],12)
def ir_rUnsafeCompactString (F:Nat→Nat):IC×List RV×Nat:=(.seq (.blk [⟨some 2,.mv (.const (.string .empty)),none⟩]) (.seq (.blk [⟨some 4,.mv (.tmp 0),none⟩,
 ⟨some 5,.call (F qB) [.tmp 4],none⟩,⟨some 6,.conv .i64 (.tmp 5),none⟩,⟨some 7,.bin .sub (.tmp 6) (.const (.int .i64 1)),none⟩,⟨some 3,.mv (.tmp 7),none⟩])
 (.seq (.blk [⟨some 8,.mv (.tmp 0),none⟩,⟨some 9,.mv (.tmp 3),none⟩,⟨some 10,.call (F zF) [.tmp 8,.tmp 9],none⟩,⟨some 11,.call (F qC) [.tmp 10],none⟩,⟨some 2,.mv (.tmp 11),none⟩])
 (.ret))),[.tmp 2],12)
def ir_rCompactNullableString (F:Nat→Nat):IC×List RV×Nat:=(.seq (.blk [⟨some 2,.mv (.const (.pointer none)),none⟩]) (.seq (.blk [⟨some 5,.mv (.tmp 0),none⟩,
 ⟨some 6,.call (F qB) [.tmp 5],none⟩,⟨some 7,.conv .i64 (.tmp 6),none⟩,⟨some 8,.bin .sub (.tmp 7) (.const (.int .i64 1)),none⟩,⟨some 3,.mv (.tmp 8),none⟩])
 (.seq (.seq (.blk [⟨some 9,.mv (.tmp 3),none⟩,⟨some 10,.bin .lss (.tmp 9) (.const (.int .i64 0)),none⟩]) (.cond (.tmp 10) (.seq (.blk [⟨some 2,.mv (.const (.pointer none)),none⟩])
 (.ret)) (.skip))) (.seq (.blk [⟨some 11,.mv (.tmp 0),none⟩,⟨some 12,.mv (.tmp 3),none⟩,⟨some 13,.call (F zF) [.tmp 11,.tmp 12],none⟩,⟨some 14,.b2s (.tmp 13),none⟩,
 ⟨some 4,.alloc [.string .empty],none⟩,⟨none,.st (.tmp 4) 1 (.tmp 14),none⟩]) (.seq (.blk [⟨some 2,.mv (.tmp 4),none⟩]) (.ret))))),[.tmp 2],15)
def ir_rUnsafeCompactNullableString (F:Nat→Nat):IC×List RV×Nat:=(.seq (.blk [⟨some 2,.mv (.const (.pointer none)),none⟩]) (.seq (.blk [⟨some 5,.mv (.tmp 0),none⟩,
 ⟨some 6,.call (F qB) [.tmp 5],none⟩,⟨some 7,.conv .i64 (.tmp 6),none⟩,⟨some 8,.bin .sub (.tmp 7) (.const (.int .i64 1)),none⟩,⟨some 3,.mv (.tmp 8),none⟩])
 (.seq (.seq (.blk [⟨some 9,.mv (.tmp 3),none⟩,⟨some 10,.bin .lss (.tmp 9) (.const (.int .i64 0)),none⟩]) (.cond (.tmp 10) (.seq (.blk [⟨some 2,.mv (.const (.pointer none)),none⟩])
 (.ret)) (.skip))) (.seq (.blk [⟨some 11,.mv (.tmp 0),none⟩,⟨some 12,.mv (.tmp 3),none⟩,⟨some 13,.call (F zF) [.tmp 11,.tmp 12],none⟩,⟨some 14,.call (F qC) [.tmp 13],none⟩,
 ⟨some 4,.alloc [.string .empty],none⟩,⟨none,.st (.tmp 4) 1 (.tmp 14),none⟩]) (.seq (.blk [⟨some 2,.mv (.tmp 4),none⟩]) (.ret))))),[.tmp 2],15)
def ir_rBytes (F:Nat→Nat):IC×List RV×Nat:=(.seq (.blk [⟨some 2,.mv (.const (.slice none 0 0)),none⟩]) (.seq (.blk [⟨some 4,.mv (.tmp 0),none⟩,⟨some 5,.call (F y8) [.tmp 4],none⟩,
 ⟨some 3,.mv (.tmp 5),none⟩]) (.seq (.seq (.blk [⟨some 6,.mv (.tmp 3),none⟩,⟨some 7,.bin .eql (.tmp 6) (.const (.int .i32 (-1))),none⟩]) (.cond (.tmp 7)
 (.seq (.blk [⟨some 8,.bslice 0 [.int .u8 0] [],none⟩,⟨some 2,.mv (.tmp 8),none⟩]) (.ret)) (.skip))) (.seq (.blk [⟨some 9,.mv (.tmp 0),none⟩,⟨some 10,.mv (.tmp 3),none⟩,
 ⟨some 11,.conv .i64 (.tmp 10),none⟩,⟨some 12,.call (F zF) [.tmp 9,.tmp 11],none⟩,⟨some 2,.mv (.tmp 12),none⟩]) (.ret)))),[.tmp 2],13)
def ir_rCompactBytes (F:Nat→Nat):IC×List RV×Nat:=(.seq (.blk [⟨some 2,.mv (.const (.slice none 0 0)),none⟩]) (.seq (.blk [⟨some 4,.mv (.tmp 0),none⟩,
 ⟨some 5,.call (F qB) [.tmp 4],none⟩,⟨some 6,.conv .i64 (.tmp 5),none⟩,⟨some 7,.bin .sub (.tmp 6) (.const (.int .i64 1)),none⟩,⟨some 3,.mv (.tmp 7),none⟩])
 (.seq (.seq (.blk [⟨some 8,.mv (.tmp 3),none⟩,⟨some 9,.bin .eql (.tmp 8) (.const (.int .i64 (-1))),none⟩]) (.cond (.tmp 9) (.seq (.blk [⟨some 10,.bslice 0 [.int .u8 0] [],none⟩,
 ⟨some 2,.mv (.tmp 10),none⟩]) (.ret)) (.skip))) (.seq (.blk [⟨some 11,.mv (.tmp 0),none⟩,⟨some 12,.mv (.tmp 3),none⟩,⟨some 13,.call (F zF) [.tmp 11,.tmp 12],none⟩,
 ⟨some 2,.mv (.tmp 13),none⟩]) (.ret)))),[.tmp 2],14)
def ir_rCompactNullableBytes (F:Nat→Nat):IC×List RV×Nat:=(.seq (.blk [⟨some 2,.mv (.const (.slice none 0 0)),none⟩]) (.seq (.blk [⟨some 5,.mv (.tmp 0),none⟩,
 ⟨some 6,.call (F qB) [.tmp 5],none⟩,⟨some 7,.conv .i64 (.tmp 6),none⟩,⟨some 8,.bin .sub (.tmp 7) (.const (.int .i64 1)),none⟩,⟨some 3,.mv (.tmp 8),none⟩])
 (.seq (.seq (.blk [⟨some 9,.mv (.tmp 3),none⟩,⟨some 10,.bin .lss (.tmp 9) (.const (.int .i64 0)),none⟩]) (.cond (.tmp 10)
 (.seq (.blk [⟨some 2,.mv (.const (.slice none 0 0)),none⟩]) (.ret)) (.skip))) (.seq (.blk [⟨some 11,.mv (.tmp 0),none⟩,⟨some 12,.mv (.tmp 3),none⟩,
 ⟨some 13,.call (F zF) [.tmp 11,.tmp 12],none⟩,⟨some 4,.mv (.tmp 13),none⟩]) (.seq (.blk [⟨some 14,.mv (.tmp 4),none⟩,⟨some 2,.mv (.tmp 14),none⟩]) (.ret))))),[.tmp 2],15)
def ir_rCompactArrayLen (F:Nat→Nat):IC×List RV×Nat:=(.seq (.blk [⟨some 2,.mv (.const (.int .i32 0)),none⟩]) (.seq (.blk [⟨some 4,.mv (.tmp 0),none⟩,
 ⟨some 5,.call (F qB) [.tmp 4],none⟩,⟨some 6,.conv .i32 (.tmp 5),none⟩,⟨some 7,.bin .sub (.tmp 6) (.const (.int .i32 1)),none⟩,⟨some 3,.mv (.tmp 7),none⟩])
 (.seq (.seq (.blk [⟨some 8,.mv (.tmp 0),none⟩,⟨some 9,.nilc (.tmp 8),none⟩,⟨some 10,.fad (.tmp 9) 0,none⟩,⟨some 11,.ld (.tmp 10),none⟩,⟨some 12,.len (.tmp 11),none⟩,
 ⟨some 13,.mv (.tmp 3),none⟩,⟨some 14,.conv .i64 (.tmp 13),none⟩,⟨some 15,.bin .lss (.tmp 12) (.tmp 14),none⟩]) (.cond (.tmp 15) (.seq (.blk [⟨some 16,.mv (.tmp 0),none⟩,
 ⟨some 17,.nilc (.tmp 16),none⟩,⟨some 18,.fad (.tmp 17) 1,none⟩,⟨none,.st (.tmp 18) 1 (.const (.bool true)),none⟩]) (.seq (.blk [⟨some 19,.mv (.tmp 0),none⟩,
 ⟨some 20,.nilc (.tmp 19),none⟩,⟨some 21,.fad (.tmp 20) 0,none⟩,⟨none,.st (.tmp 21) 1 (.const (.slice none 0 0)),none⟩]) (.seq (.blk [⟨some 2,.mv (.const (.int .i32 0)),none⟩])
 (.ret)))) (.skip))) (.seq (.blk [⟨some 22,.mv (.tmp 3),none⟩,⟨some 2,.mv (.tmp 22),none⟩]) (.ret)))),[.tmp 2],23)
set_option maxRecDepth 100000
def uvR:Nat→List UInt8→Option (Nat×Nat)
 | 0,_=>none
 | _+1,[]=>none
 | n+1,b::r =>
 if b.toNat<128 then (if n=0∧15<b.toNat then none else some (b.toNat,1))
 else match uvR n r with
 | some (v,k)=>some (b.toNat%128+128*v,k+1)
 | none=>none
theorem kQK (b:UInt8):kM .and .u8 (b.toNat:Int) 127=some (.int .u8 ((b.toNat%128:Nat):Int)):=by
 have key :∀n,n<256→kM .and .u8 (n:Nat) 127=some (.int .u8 ((n%128:Nat):Int)):=by
  intro n hn
  simp only [kM]
  congr 2
  have h :∀n:Fin 256,IntKind.u8.wrap ((BitVec.ofInt IntKind.u8.bits (n.val:Int)&&&BitVec.ofInt IntKind.u8.bits 127).toNat:Int)=((n.val%128:Nat):Int):=by decide +kernel
  exact h ⟨n,hn⟩
 exact key _ (jH b)
theorem kQL (b:UInt8):kM .and .u8 (b.toNat:Int) 128=some (.int .u8 (if b.toNat<128 then 0 else 128)):=by
 have key :∀n,n<256→kM .and .u8 (n:Nat) 128=some (.int .u8 (if n<128 then 0 else 128)):=by
  intro n hn
  simp only [kM]
  congr 2
  have h :∀n:Fin 256,IntKind.u8.wrap ((BitVec.ofInt IntKind.u8.bits (n.val:Int)&&&BitVec.ofInt IntKind.u8.bits 128).toNat:Int)=(if n.val<128 then 0 else 128):=by decide +kernel
  exact h ⟨n,hn⟩
 exact key _ (jH b)
theorem kBS {n:Nat} (h:n<4294967296):IntKind.u32.wrap (n:Int)=n:=by
 simp [IntKind.wrap,IntKind.bits,IntKind.signed];omega
theorem kM5 {x s:Nat} (hs:s≤32) (hx:x*2^s<4294967296):kM .shl .u32 (x:Int) (s:Int)=some (.int .u32 ((x*2^s:Nat):Int)) :=
 kJL (k:=.u32) rfl (by simpa [IntKind.bits] using hs) (by simpa [IntKind.bits] using hx)
theorem kQM {x y s:Nat} (hx:x<2^s) (hs:s≤32) (hy:y*2^s<4294967296):kM .or .u32 (x:Int) ((y*2^s:Nat):Int)=some (.int .u32 ((x+y*2^s:Nat):Int)):=by
 have h2:(2:Nat)^s≤2^32:=Nat.pow_le_pow_right (by omega) hs
 have e:=kKR (k:=.u32) rfl (x:=x) (y:=y*2^s) (by simp only [IntKind.bits];omega) (by simpa [IntKind.bits] using hy)
 rw [e,Nat.or_comm,Nat.or_comm,kKQ y x s hx,Nat.add_comm]
section
variable {P:Program}
structure UvS (a:Addr) (len cap:Nat) (x:Nat) (σ:Sl):Prop where
 s0:σ 0=.slice (some a) len cap
 s4:σ 4=.int .u32 x
 s5:σ 5=.int .i64 0
theorem kGK {t i sh x len cap:Nat} {a:Addr} {l:List UInt8} {b:UInt8} {ii i2 ss:Int} {σ:Sl} {w:World} {rest:IC} {Q:Exit→Sl→World→Prop} (ht:6≤t) (hb:qW w (some a) len cap l) (hi:l[i]?=some b) (hx:x<2^sh) (hsh:sh≤21)
  (eii:ii=i) (ei2:i2=i+2) (ess:ss=sh) (hS:UvS a len cap x σ)
  (hret:b.toNat<128 →∀σ',σ' 2=.int .u32 ((x+b.toNat*2^sh:Nat):Int)→σ' 3=.int .i64 (i+1)→Q .ret σ' w)
  (hgo :¬b.toNat<128→len<i+2 →∀σ',σ' 5=.int .i64 0→Q (.goto 0) σ' w)
  (hnext :¬b.toNat<128 →¬len<i+2 →∀σ',UvS a len cap (x+(b.toNat%128)*2^sh) σ'→wpC P rest Q σ' w) :
  wpC P (.seq (.blk [⟨some t,.mv (.tmp 4),none⟩,⟨some (t+1),.mv (.tmp 0),none⟩,⟨some (t+2),.iad (.tmp (t+1)) (.const (.int .i64 ii)) 1,none⟩,⟨some (t+3),.ld (.tmp (t+2)),none⟩,
      ⟨some (t+4),.bin .and (.tmp (t+3)) (.const (.int .u8 127)),none⟩,⟨some (t+5),.conv .u32 (.tmp (t+4)),none⟩,⟨some (t+6),.bin .shl (.tmp (t+5)) (.const (.int .u64 ss)),none⟩,⟨some (t+7),.bin .or (.tmp t) (.tmp (t+6)),none⟩,⟨some 4,.mv (.tmp (t+7)),none⟩])
   (.seq (.seq (.blk [⟨some (t+8),.mv (.tmp 0),none⟩,⟨some (t+9),.iad (.tmp (t+8)) (.const (.int .i64 ii)) 1,none⟩,⟨some (t+10),.ld (.tmp (t+9)),none⟩,⟨some (t+11),.bin .and (.tmp (t+10)) (.const (.int .u8 128)),none⟩,⟨some (t+12),.bin .eql (.tmp (t+11)) (.const (.int .u8 0)),none⟩])
    (.cond (.tmp (t+12)) (.seq (.blk [⟨some (t+13),.mv (.tmp 4),none⟩,⟨some 2,.mv (.tmp (t+13)),none⟩,⟨some 3,.mv (.const (.int .i64 (i+1))),none⟩]) .ret)
     (.seq (.blk [⟨some (t+14),.mv (.tmp 0),none⟩,⟨some (t+15),.len (.tmp (t+14)),none⟩,⟨some (t+16),.bin .lss (.tmp (t+15)) (.const (.int .i64 i2)),none⟩]) (.cond (.tmp (t+16)) (.goto 0) .skip)))) rest)) Q σ w:=by
 subst eii ei2 ess
 have hlt:=hb.lt hi
 have hg:=hb.get hi
 have hbl:=jH b
 have hp:(2:Nat)^sh≤2^21:=Nat.pow_le_pow_right (by omega) hsh
 have hm1:(b.toNat%128)*2^sh≤127*2^21:=Nat.mul_le_mul (by omega) hp
 have h1:(b.toNat%128)*2^sh<4294967296:=by omega
 have h2:x+(b.toNat%128)*2^sh<4294967296:=by omega
 have e1:IntKind.u32.wrap ((b.toNat%128:Nat):Int)=((b.toNat%128:Nat):Int):=kBS (by omega)
 rw [wpC_seq,kD]
 refine kC (v:=.int .u32 x) (congrArg some hS.s4) ?_
 refine kC (v:=.slice (some a) len cap) (by simp only [RK.val?,ev,updo,upd,show (0:Nat)≠t by omega,if_false,hS.s0]) ?_
 refine kC (v:=.pointer (some (a.add i))) (by simp only [RK.val?,ev,updo,upd,if_true];rw [if_pos (by omega)];simp) ?_
 refine kC (v:=.int .u8 b.toNat) (by simp only [RK.val?,ev,updo,upd,if_true];exact hg) ?_
 refine kC (v:=.int .u8 ((b.toNat%128:Nat):Int)) (by simp only [RK.val?,ev,updo,upd,if_true,decide_true,Bool.or_true];exact kQK b) ?_
 refine kC (v:=.int .u32 ((b.toNat%128:Nat):Int)) (by simp only [RK.val?,ev,updo,upd,if_true,e1]) ?_
 refine kC (v:=.int .u32 (((b.toNat%128)*2^sh:Nat):Int)) (by simp only [RK.val?,ev,updo,upd,if_true,kL,Bool.true_or];exact kM5 (by omega) h1) ?_
 refine kC (v:=.int .u32 ((x+(b.toNat%128)*2^sh:Nat):Int)) (by
  simp only [RK.val?,ev,updo,upd,show t≠t+6 by omega,show t≠t+5 by omega,show t≠t+4 by omega,show t≠t+3 by omega,show t≠t+2 by omega,show t≠t+1 by omega,if_false,if_true,decide_true,Bool.or_true]
  exact kQM hx (by omega) h1) ?_
 refine kC (v:=.int .u32 ((x+(b.toNat%128)*2^sh:Nat):Int)) (by simp only [RK.val?,ev,updo,upd,if_true]) ?_
 refine kE ?_
 generalize hσ1:updo _ (some 4) _=σ1
 have k0:σ1 0=.slice (some a) len cap:=by
  rw [←hσ1];simp only [updo,upd,show (0:Nat)≠4 by omega,show (0:Nat)≠t+7 by omega,show (0:Nat)≠t+6 by omega,show (0:Nat)≠t+5 by omega,show (0:Nat)≠t+4 by omega,show (0:Nat)≠t+3 by omega,show (0:Nat)≠t+2 by omega,show (0:Nat)≠t+1 by omega,show (0:Nat)≠t by omega,if_false,hS.s0]
 have k4:σ1 4=.int .u32 ((x+(b.toNat%128)*2^sh:Nat):Int):=by rw [←hσ1];rfl
 have k5:σ1 5=.int .i64 0:=by
  rw [←hσ1];simp only [updo,upd,show (5:Nat)≠4 by omega,show (5:Nat)≠t+7 by omega,show (5:Nat)≠t+6 by omega,show (5:Nat)≠t+5 by omega,show (5:Nat)≠t+4 by omega,show (5:Nat)≠t+3 by omega,show (5:Nat)≠t+2 by omega,show (5:Nat)≠t+1 by omega,show (5:Nat)≠t by omega,if_false,hS.s5]
 clear hσ1
 rw [wpC_seq,wpC_seq,kD]
 refine kC (v:=.slice (some a) len cap) (congrArg some k0) ?_
 refine kC (v:=.pointer (some (a.add i))) (by simp only [RK.val?,ev,updo,upd,if_true];rw [if_pos (by omega)];simp) ?_
 refine kC (v:=.int .u8 b.toNat) (by simp only [RK.val?,ev,updo,upd,if_true];exact hg) ?_
 refine kC (v:=.int .u8 (if b.toNat<128 then 0 else 128)) (by simp only [RK.val?,ev,updo,upd,if_true,decide_true,Bool.or_true];exact kQL b) ?_
 refine kC (v:=.bool (decide (b.toNat<128))) (by
  simp only [RK.val?,ev,updo,upd,if_true,decide_true,Bool.or_true,kM]
  by_cases hbb:b.toNat<128<;>simp [hbb]) ?_
 refine kE ?_
 by_cases hbb:b.toNat<128
 ·rw [kI (by simp only [ev,updo,upd,if_true,hbb,decide_true]),wpC_seq,kD]
  refine kC (v:=.int .u32 ((x+(b.toNat%128)*2^sh:Nat):Int)) (by
   simp only [RK.val?,ev,updo,upd,show (4:Nat)≠t+8 by omega,show (4:Nat)≠t+9 by omega,show (4:Nat)≠t+10 by omega,show (4:Nat)≠t+11 by omega,show (4:Nat)≠t+12 by omega,if_false,k4]) ?_
  refine kC (v:=.int .u32 ((x+(b.toNat%128)*2^sh:Nat):Int)) (by simp only [RK.val?,ev,updo,upd,if_true]) ?_
  refine kC (v:=.int .i64 (i+1)) rfl ?_
  refine kE ?_
  refine hret hbb _ ?_ rfl
  rw [Nat.mod_eq_of_lt hbb];rfl
 ·rw [kG (by simp only [ev,updo,upd,if_true,hbb,decide_false]),wpC_seq,kD]
  refine kC (v:=.slice (some a) len cap) (by
   simp only [RK.val?,ev,updo,upd,show (0:Nat)≠t+8 by omega,show (0:Nat)≠t+9 by omega,show (0:Nat)≠t+10 by omega,show (0:Nat)≠t+11 by omega,show (0:Nat)≠t+12 by omega,if_false,k0]) ?_
  refine kC (v:=.int .i64 len) (by simp only [RK.val?,ev,updo,upd,if_true]) ?_
  refine kC (v:=.bool (decide (len<i+2))) (by
   simp only [RK.val?,ev,updo,upd,if_true,decide_true,Bool.or_true,kM]
   congr 2
   exact decide_eq_decide.2 (by omega)) ?_
  refine kE ?_
  have g :∀j,j<6→(updo (updo (updo (updo (updo (updo (updo (updo σ1 (some (t+8)) (.slice (some a) len cap)) (some (t+9)) (.pointer (some (a.add i)))) (some (t+10)) (.int .u8 b.toNat)) (some (t+11)) (.int .u8 (if b.toNat<128 then 0 else 128))) (some (t+12)) (.bool (decide (b.toNat<128)))) (some (t+14)) (.slice (some a) len cap)) (some (t+15)) (.int .i64 len)) (some (t+16)) (.bool (decide (len<i+2)))) j=σ1 j:=by
   intro j hj
   simp only [updo,upd,show j≠t+8 by omega,show j≠t+9 by omega,show j≠t+10 by omega,show j≠t+11 by omega,show j≠t+12 by omega,show j≠t+14 by omega,show j≠t+15 by omega,show j≠t+16 by omega,if_false]
  by_cases hl2:len<i+2
  ·rw [kI (by simp only [ev,updo,upd,if_true,hl2,decide_true])]
   exact hgo hbb hl2 _ ((g 5 (by omega)).trans k5)
  ·rw [kG (by simp only [ev,updo,upd,if_true,hl2,decide_false]),wpC_skip]
   exact hnext hbb hl2 _ ⟨(g 0 (by omega)).trans k0,(g 4 (by omega)).trans k4,(g 5 (by omega)).trans k5⟩
end
end Go.Msk
