/- A small language of resolved operations, and what the generic and the generated functions do in it (part 19). -/
import Derived.Test.YtfoljfjkifiboaaGreatDoorFr
namespace Go.Msk
open Go.RowKit
set_option maxRecDepth 100000
def kKI (dfl:FuncId) (body:Sc):Sc:=.sub .all dfl body .nil
def subL (E:RE) (sp off nv t nb:Nat) (dfl:FuncId) (body:Sc):List IC :=
 [.blk [⟨some t,.mv (.tmp sp),none⟩,⟨some (t+1),.nilc (.tmp t),none⟩,⟨some (t+2),.fad (.tmp (t+1)) off,none⟩,⟨some nv,.mv (.tmp (t+2)),none⟩],
  .blk [⟨some (t+3),.mv (.tmp nv),none⟩,⟨some (t+4),.call dfl [.tmp (t+3)],none⟩],cpF nv (nv+1) (t+5)]++body.gen E (nv+1) 0 (nv+2) (t+6) nb
theorem kOJ (E:RE) (sp off nv t nb:Nat) (dfl:FuncId) (body:Sc):(kKI dfl body).gen E sp off nv t nb=[seqs (subL E sp off nv t nb dfl body)]:=rfl
def kLB (E:RE) (sp off sr nb:Nat) (dfl:FuncId) (body:Sc) (uvr span:FuncId) (T:Nat):List IC :=
 .blk [⟨some T,.call uvr [.tmp E.b],none⟩,⟨some (T+1),.conv .i64 (.tmp T),none⟩,⟨some (T+2),.call span [.tmp E.b,.tmp (T+1)],none⟩,⟨some (T+3),.build [.slice none 0 0,.bool false] [(0,1,.tmp (T+2))],none⟩,
  ⟨some sr,.alloc [.slice none 0 0,.bool false],none⟩,⟨none,.st (.tmp sr) 2 (.tmp (T+3)),none⟩] ::
 (subL {E with b:=sr} sp off (sr+1) (T+4) nb dfl body ++
  [.blk [⟨some (T+10+body.nt E.hasFx),.call E.cpl [.tmp sr],none⟩,⟨some (sr+3+body.nv),.mv (.tmp (T+10+body.nt E.hasFx)),none⟩],
   .blk [⟨some (T+11+body.nt E.hasFx),.mv (.tmp (sr+3+body.nv)),none⟩,⟨some (T+12+body.nt E.hasFx),.isnil .ic true (.tmp (T+11+body.nt E.hasFx)),none⟩],
   .cond (.tmp (T+12+body.nt E.hasFx)) (.seq (.blk [⟨some (T+13+body.nt E.hasFx),.mv (.tmp (sr+3+body.nv)),none⟩,⟨some E.ret,.mv (.tmp (T+13+body.nt E.hasFx)),none⟩]) .ret) .skip])
section
variable {P:Program} {D:Dec}
attribute [local simp] gOk updo upd ev RK.val? kL kM Addr.kK qE Value.cells undef
theorem wpL_one (c:IC) (Q:Exit→Sl→World→Prop) (σ:Sl) (w:World):wpL P [c] Q σ w=wpC P c Q σ w:=by
 show wpC P c (kF (Q .normal) Q) σ w=_
 rw [kFH]
theorem kQA {uvr span:FuncId} (huv:RdC P uvr fun s=>(.int .u32 (rdUv s).1,(rdUv s).2)) (hsp:kOI P span) {E:RE} {w0 w:World} {sp sr T nb rb b0 z g nv:Nat} {pre:List Value} {mv:Value} {m:List (Nat×List UInt8)} {bts:List UInt8} {s1 s2 s3 s4:RS} {gs:List GV} {dfl:FuncId} {body:Sc} {u x:Bool} {ver:Int} {Te:TypeId} {ve:Value} {σ:Sl} {Q:Exit→Sl→World→Prop}
  (hcpl:CplC P E.cpl g) (hsh:D.kJN) (hok:body.lists=true→OkC P E.ok) (hD:DfC P dfl body.dcs.flatten body.dcs.flatten) (hB:body.Ok P D u x)
  (hA:KtA w0 w rb b0 pre [.rcd body.dgv] [body.dcs.flatten] mv m) (hR:IsRd (b0::ownM mv) w rb s1) (h1:rdUv s1=(z,s2)) (h2:qG z s2=(some bts,s3)) (hdec:body.dec D ver x ⟨bts,false,false⟩=some (gs,s4)) (hbad:s4.bad=false)
  (hE:RV.Env E nv rb u x ver σ) (hs:σ sp=.pointer (some ⟨b0,0,none⟩)) (l1:nv≤sr) (l2:sp<nv) (l4:sr+4+body.nv≤T) (hg:GErr g w Te ve) (hgn:g≠rb∧g≠b0∧g<w0.heap.size)
  (hQ :∀σ' w' css,(∀j,j<sr→σ' j=σ j)→KtA w0 w' rb b0 pre [.rcd gs] css mv m→css.flatten.length=body.dcs.flatten.length→IsRd (b0::ownM mv) w' rb s3→GErr g w' Te ve→Q .normal σ' w') :
  wpL P (kLB E sp pre.length sr nb dfl body uvr span T) Q σ w:=by
 have hz:=xQ s1
 rw [h1] at hz
 simp only at hz
 have hlb:=hE.lb
 have hlv:=hE.lv
 have hlu:=hE.lu
 have hrb:rb ∉ b0::ownM mv:=by
  simp only [List.mem_cons,not_or]
  exact ⟨hA.ne,fun hc=>(hA.own hc).2.1 rfl⟩
 unfold kLB
 simp only [List.cons_append,wpL]
 rw [kD]
 refine qF rfl (vs:=[.pointer (some ⟨rb,0,none⟩)]) (by simp [hE.hb]) (huv (b0::ownM mv) w rb s1 hR hrb) ?_
 rintro e w1 ⟨rfl,hr1,hm1⟩
 simp only [h1] at hr1 ⊢
 refine ⟨_,rfl,?_⟩
 refine go1 (v:=.int .i64 (z:Nat)) rfl (by simp only [RK.val?,ev,updo,upd,if_true];rw [xR (by omega)]) ?_
 refine qF rfl (vs:=[.pointer (some ⟨rb,0,none⟩),.int .i64 (z:Nat)]) (by simp [hE.hb,show E.b≠T by omega,show E.b≠T+1 by omega]) (hsp (b0::ownM mv) w1 rb s2 z hr1) ?_
 rintro e w2 ⟨v,rfl,ho,hr2,hm2⟩
 rw [h2] at ho hr2
 simp only at ho hr2
 refine ⟨_,rfl,?_⟩
 have hA2:=(hA.rd hm1).rd hm2
 have hm02:=hm1.trans hm2
 obtain ⟨⟨base,len,cap,rfl,hby⟩,hbl⟩:=ho
 refine go1 (v:=.agg #[.slice (some base) len cap,.bool false]) rfl (by simp [zW,splice]) ?_
 refine jI fun w3 hb3 hm3=>?_
 refine goSt (b:=w2.heap.size) (v:=.agg #[.slice (some base) len cap,.bool false]) (by simp) (by simp [show T+3≠sr by omega]) hb3 (by simp) (by simp) (by
  intro y hy
  simp only [Value.cells,List.mem_cons,List.not_mem_nil,or_false] at hy
  rcases hy with rfl|rfl<;>rfl) fun w4 hb4 hm4=>kP ?_
 simp only [kF]
 have hb4:Blk w4 w2.heap.size [.slice (some base) len cap,.bool false]:=by simpa using hb4
 have hm24:Mod [] w2 w4:=Mod.drop (b:=w2.heap.size) (S:=[]) (hm3.nil.trans hm4) (Nat.le_refl _)
 have hA4:=hA2.same hm24
 have hr4:IsRd (b0::ownM mv) w4 rb s3:=hr2.mod hm24 (by simp) (by simp)
 have hbb:=hbl base len cap rfl
 have hr24:IsRd (rb::b0::ownM mv) w4 w2.heap.size ⟨bts,false,false⟩:=by
  refine ⟨⟨some base,len,cap,hb4,hby.mod hm24 (by simp),rfl,fun a ha=>?_⟩,?_⟩
  ·cases ha
   exact ⟨by have:=hbb.2;omega,hbb.1,Nat.lt_of_lt_of_le hbb.2 hm24.size⟩
  ·have hq:=hr1.short
   have:bts.length≤s2.src.length:=by
    unfold qG at h2
    split at h2
    ·simp at h2
    ·simp only [Prod.mk.injEq] at h2
     obtain ⟨h2,-⟩:=h2
     split at h2
     ·simp at h2
     ·simp only [Option.some.injEq] at h2
      rw [←h2];simp;omega
   show bts.length≤_
   omega
 have hgd:GErr g w4 Te ve:=zH (zH hg hm02 (by simpa using hgn.1)) hm24 (by simp)
 generalize hσ:updo _ (some sr) _=σ1
 have a1 :∀j,j<T→j≠sr→σ1 j=σ j:=fun j hj hne=>by
  rw [←hσ]
  simp only [updo,upd,hne,show j≠T by omega,show j≠T+1 by omega,show j≠T+2 by omega,show j≠T+3 by omega,if_false]
 have v1:σ1 sr=.pointer (some ⟨w2.heap.size,0,none⟩):=by rw [←hσ];simp
 clear hσ
 rw [wO]
 have hE1:RV.Env {E with b:=sr} (sr+1) w2.heap.size u x ver σ1:=by
  refine ⟨by simp,by simp only;omega,fun hf=>?_,by simp only;omega,v1,?_,?_,fun hf=>?_,hE.h0⟩
  ·have:=hE.lf hf;simp only;omega
  ·exact (a1 E.vs (by omega) (by omega)).trans hE.hv
  ·exact (a1 E.un (by omega) (by omega)).trans hE.hu
  ·have:=hE.lf hf
   exact (a1 E.fx (by omega) (by omega)).trans (hE.hx hf)
 have hsz :∀y∈rb::b0::ownM mv,y<w4.heap.size:=by
  intro y hy
  simp only [List.mem_cons] at hy
  rcases hy with rfl|rfl|hy
  ·exact Nat.lt_of_lt_of_le hA4.lr hA4.mod.size
  ·exact hA4.blk.lt
  ·have he:=kA4 hy
   rcases hA4.tag with ⟨e1,-⟩|⟨r,e1,e2⟩
   ·rw [e1] at he;simp at he
   ·rw [e1] at he
    simp only [Value.map.injEq,Option.some.injEq] at he
    rw [←he];exact e2.lt
 have hsd:=Sc.sound (E:={E with b:=sr}) (g:=g) (rb:=w2.heap.size) (Te:=Te) (ve:=ve) (u:=u) (x:=x) (ver:=ver) hcpl hsh (kKI dfl body) (fun h=>hok (by simpa [kKI,Sc.lists] using h))
 have hlr2:=Nat.lt_of_lt_of_le hA.lr (Nat.le_trans hA.mod.size hm02.size)
 have hlb2:=Nat.lt_of_lt_of_le hA.lb (Nat.le_trans hA.mod.size hm02.size)
 have key:=hsd sp pre.length (sr+1) (T+4) nb b0 0 (rb::b0::ownM mv) ⟨bts,false,false⟩ pre [mv] σ1 w4
  (kF (wpL P [.blk [⟨some (T+10+body.nt E.hasFx),.call E.cpl [.tmp sr],none⟩,⟨some (sr+3+body.nv),.mv (.tmp (T+10+body.nt E.hasFx)),none⟩],
   .blk [⟨some (T+11+body.nt E.hasFx),.mv (.tmp (sr+3+body.nv)),none⟩,⟨some (T+12+body.nt E.hasFx),.isnil .ic true (.tmp (T+11+body.nt E.hasFx)),none⟩],
   .cond (.tmp (T+12+body.nt E.hasFx)) (.seq (.blk [⟨some (T+13+body.nt E.hasFx),.mv (.tmp (sr+3+body.nv)),none⟩,⟨some E.ret,.mv (.tmp (T+13+body.nt E.hasFx)),none⟩]) .ret) .skip] Q) Q)
  ⟨hD,hB,trivial⟩ hE1 (by omega) (by simp only [kKI,Sc.nv];omega) (by rw [a1 sp (by omega) (by omega)];exact hs) (by omega) hr24 (by
   simp only [List.mem_cons,not_or]
   refine ⟨by omega,by omega,fun hc=>?_⟩
   have:=hA.nr _ (kA4 hc)
   rcases hA2.tag with ⟨e1,-⟩|⟨r,e1,e2⟩
   ·rw [kA4 hc] at e1;simp at e1
   ·have he:=kA4 hc
    rw [e1] at he
    simp only [Value.map.injEq,Option.some.injEq] at he
    have:=e2.lt
    omega) (by simp) hsz hgd (by
   simp only [List.mem_cons,not_or]
   refine ⟨?_,hgn.1,hgn.2.1,fun hc=>?_⟩
   ·have:=hA.mod.size;have:=hm02.size;omega
   ·have:=(hA.own hc).1;omega) (by simpa [kKI,Sc.dcs] using hA4.blk) ?_
 ·rw [kOJ,wpL_one,yB] at key
  exact key
 ·simp only [kKI,Sc.dec,VC.holds,if_true,kCT,rcdD,hdec]
  intro σ2 w5 css a2 hm5 hr5 hrep hl5 hb5
  have hg5:GErr g w5 Te ve:=zH hgd hm5 (by
   simp only [List.mem_cons,List.not_mem_nil,or_false,not_or]
   exact ⟨by have:=hA.mod.size;have:=hm02.size;omega,hgn.2.1⟩)
  simp only [kF,wpL]
  rw [kD]
  refine qF rfl (vs:=[.pointer (some ⟨w2.heap.size,0,none⟩)]) (by
   have:σ2 sr=.pointer (some ⟨w2.heap.size,0,none⟩):=(a2 sr (by omega)).trans v1
   simp [this]) (hcpl _ w5 w2.heap.size s4 Te ve hr5 hg5) ?_
  rintro e w6 ⟨rfl,e6⟩
  subst e6
  refine ⟨_,rfl,?_⟩
  rw [hbad]
  refine go1 (v:=.nilIface) rfl (by simp [errVal]) (kP ?_)
  simp only [kF]
  rw [kD]
  refine go1 (v:=.nilIface) rfl (by simp [errVal]) ?_
  refine go1 (v:=.bool false) rfl (by simp [errVal]) (kP ?_)
  simp only [kF]
  rw [kG (by simp),wpC_skip]
  have hm25:Mod [b0] w2 w6:=Mod.drop (b:=w2.heap.size) (S:=[b0]) (hm24.nil.trans (hm5.mono (by simp))) (Nat.le_refl _)
  refine hQ _ w6 css (fun j hj=>?_) ⟨hb5,?_,?_,hA.nr,hA2.mod.trans (hm25.mono (by simp)),hA.lb,hA.lr,hA.ne⟩ (by simpa [kKI,Sc.dcs] using hl5) ?_ hg5
  ·simp only [updo,upd,show j≠T+10+body.nt E.hasFx by omega,show j≠T+11+body.nt E.hasFx by omega,show j≠T+12+body.nt E.hasFx by omega,show j≠sr+3+body.nv by omega,if_false]
   exact (a2 j (by omega)).trans (a1 j (by omega) (by omega))
  ·exact hrep.weaken (by intro x hx;exact List.mem_cons_of_mem _ hx)
  ·rcases hA2.tag with ⟨e1,e2⟩|⟨r,e1,e2⟩
   ·exact .inl ⟨e1,e2⟩
   ·exact .inr ⟨r,e1,e2.mod hm25 (by simpa using (hA.nr r e1).2.2) (by simp) fun _ _ h=>h⟩
  ·exact hr2.mod hm25 (by simpa using hA.ne) (by simp)
end
def ktUnk (sp eb key off:Nat) (uvr span set:FuncId) (T:Nat):IC :=
 .drw [nd' ⟨some T,.mv (.tmp sp),none⟩,nd' ⟨some (T+1),.nilc (.tmp T),none⟩,nd' ⟨some (T+2),.fad (.tmp (T+1)) off,none⟩,nd' ⟨some (T+3),.mv (.tmp key),none⟩,
   ⟨⟨some (T+4),.call uvr [.tmp eb],none⟩,true,[]⟩,⟨⟨some (T+5),.conv .i64 (.tmp (T+4)),none⟩,false,[4]⟩,⟨⟨some (T+6),.call span [.tmp eb,.tmp (T+5)],none⟩,true,[4]⟩,⟨⟨some (T+7),.call set [.tmp (T+2),.tmp (T+3),.tmp (T+6)],none⟩,true,[4,6]⟩] []
def ktBlk (E:RE) (sp off nv nb:Nat) (dfl:FuncId) (body:Sc) (uvr span set:FuncId) (nt:Nat):IC :=
 .seq (.blk [⟨some nt,.mv (.tmp E.fx),none⟩]) (.cond (.tmp nt)
  (.seq (.blk [⟨some (nt+1),.call uvr [.tmp E.b],none⟩,⟨some nv,.mv (.tmp (nt+1)),none⟩])
   (.block nb (.loop (.seq (.seq (.blk [⟨some (nt+2),.mv (.tmp nv),none⟩,⟨some (nt+3),.bin .gtr (.tmp (nt+2)) (.const (.int .u32 0)),none⟩]) (.cond (.tmp (nt+3)) .skip (.exit nb)))
    (.seq (.block (nb+1) (.seq (.blk [⟨some (nt+6),.call uvr [.tmp E.b],none⟩,⟨some (nv+1),.mv (.tmp (nt+6)),none⟩])
     (.seq (.blk [⟨some (nt+7),.mv (.tmp (nv+1)),none⟩])
     (.block (nb+2) (.seq (.blk [⟨some (nt+17),.bin .eql (.tmp (nt+7)) (.const (.int .u32 0)),none⟩,⟨some (nt+16),.mv (.tmp (nt+17)),none⟩])
      (.cond (.tmp (nt+16)) (seqs (kLB E sp off (nv+2) (nb+3) dfl body uvr span (nt+18))) (ktUnk sp E.b (nv+1) (off+body.size) uvr span set (nt+8))))))))
    (.blk [⟨some (nt+4),.mv (.tmp nv),none⟩,⟨some (nt+5),.bin .sub (.tmp (nt+4)) (.const (.int .u32 1)),none⟩,⟨some nv,.mv (.tmp (nt+5)),none⟩]))))))
  .skip)
inductive KRun (dec:RS→Option (List GV×RS)):Nat→Option (List GV)→List (Nat×List UInt8)→RS→Option (List GV)→List (Nat×List UInt8)→RS→Prop
 | done {o:Option (List GV)} {m:List (Nat×List UInt8)} {s:RS}:KRun dec 0 o m s o m s
 | known {n z:Nat} {m m':List (Nat×List UInt8)} {s s1 s2 s3 s4 s':RS} {bts:List UInt8} {gs:List GV} {o':Option (List GV)}:rdUv s=(0,s1)→rdUv s1=(z,s2)→qG z s2=(some bts,s3)→dec ⟨bts,false,false⟩=some (gs,s4)→s4.bad=false →
   KRun dec n (some gs) m s3 o' m' s'→KRun dec (n+1) none m s o' m' s'
 | unk {n k z:Nat} {o o':Option (List GV)} {m m':List (Nat×List UInt8)} {s s1 s2 s3 s':RS} {bts:List UInt8}:rdUv s=(k,s1)→0<k→rdUv s1=(z,s2)→qG z s2=(some bts,s3)→s2.src.length<s1.src.length→s3.src.length≤s2.src.length →
   KRun dec n o (yI m k bts) s3 o' m' s'→KRun dec (n+1) o m s o' m' s'
theorem KRun.zero {dec:RS→Option (List GV×RS)} {o o':Option (List GV)} {m m':List (Nat×List UInt8)} {s s':RS} (h:KRun dec 0 o m s o' m' s'):o'=o∧m'=m∧s'=s:=by
 cases h with|done=>exact ⟨rfl,rfl,rfl⟩
section
variable {P:Program} {D:Dec}
attribute [local simp] gOk updo upd ev RK.val? kL kM Addr.kK qE Value.cells undef
theorem kOK {w0 w w':World} {rb b0 g:Nat} {Te:TypeId} {ve:Value} (h:Mod [rb,b0] w0 w) (h':Mod [rb,b0] w0 w') (hg:g≠rb∧g≠b0∧g<w0.heap.size) (hc:GErr g w Te ve):GErr g w' Te ve:=by
 have e1:=h.block g hg.2.2 (by simp [hg.1,hg.2.1])
 have e2:=h'.block g hg.2.2 (by simp [hg.1,hg.2.1])
 have e3:w'.heap[g]?=w.heap[g]?:=by rw [e2,e1]
 unfold GErr at hc ⊢
 rw [World.cell?_of_block (w:=w) e3];exact hc
theorem kQB {uvr span set:FuncId} (huv:RdC P uvr fun s=>(.int .u32 (rdUv s).1,(rdUv s).2)) (hsp:kOI P span) (hset:SetC P set) {E:RE} {w0 w:World} {sp nt nb rb b0 g nv n:Nat} {pre:List Value} {mv:Value} {m m':List (Nat×List UInt8)} {s s':RS} {o o':Option (List GV)} {css:List (List Value)} {dfl:FuncId} {body:Sc} {u x:Bool} {ver:Int} {Te:TypeId} {ve:Value} {σ:Sl} {Q:Exit→Sl→World→Prop}
  (hcpl:CplC P E.cpl g) (hsh:D.kJN) (hok:body.lists=true→OkC P E.ok) (hD:DfC P dfl body.dcs.flatten body.dcs.flatten) (hB:body.Ok P D u x)
  (hA:KtA w0 w rb b0 pre [.rcd (o.getD body.dgv)] css mv m) (hcl:css.flatten.length=body.dcs.flatten.length) (hc0:o=none→css=[body.dcs.flatten]) (hR:IsRd (b0::ownM mv) w rb s) (hrun:KRun (body.dec D ver x) (n+1) o m s o' m' s')
  (hE:RV.Env E nv rb u x ver σ) (hs:σ sp=.pointer (some ⟨b0,0,none⟩)) (l2:sp<nv) (l4:nv+6+body.nv≤nt) (hg:GErr g w Te ve) (hgn:g≠rb∧g≠b0∧g<w0.heap.size)
  (hQ :∀σ' w' o1 m1 s1 mv1 css1,(∀j,j<nv+1→σ' j=σ j)→KtA w0 w' rb b0 pre [.rcd (o1.getD body.dgv)] css1 mv1 m1→css1.flatten.length=body.dcs.flatten.length→(o1=none→css1=[body.dcs.flatten])→IsRd (b0::ownM mv1) w' rb s1→KRun (body.dec D ver x) n o1 m1 s1 o' m' s'→GErr g w' Te ve→Q .normal σ' w') :
  wpC P (.seq (.blk [⟨some (nt+6),.call uvr [.tmp E.b],none⟩,⟨some (nv+1),.mv (.tmp (nt+6)),none⟩])
        (.seq (.blk [⟨some (nt+7),.mv (.tmp (nv+1)),none⟩])
        (.block (nb+2) (.seq (.blk [⟨some (nt+17),.bin .eql (.tmp (nt+7)) (.const (.int .u32 0)),none⟩,⟨some (nt+16),.mv (.tmp (nt+17)),none⟩])
         (.cond (.tmp (nt+16)) (seqs (kLB E sp pre.length (nv+2) (nb+3) dfl body uvr span (nt+18))) (ktUnk sp E.b (nv+1) (pre.length+body.size) uvr span set (nt+8))))))) Q σ w:=by
 have hrb:rb ∉ b0::ownM mv:=by
  simp only [List.mem_cons,not_or]
  exact ⟨hA.ne,fun hc=>(hA.own hc).2.1 rfl⟩
 have hlb:=hE.lb
 rw [wpC_seq,kD]
 refine qF rfl (vs:=[.pointer (some ⟨rb,0,none⟩)]) (by simp [hE.hb]) (huv (b0::ownM mv) w rb s hR hrb) ?_
 rintro e w1 ⟨rfl,hr1,hm1⟩
 simp only at hr1 ⊢
 refine ⟨_,rfl,go1 (v:=.int .u32 ((rdUv s).1:Nat)) rfl (by simp) (kP ?_)⟩
 simp only [kF]
 rw [wpC_seq,kD]
 refine go1 (v:=.int .u32 ((rdUv s).1:Nat)) rfl (by simp) (kP ?_)
 simp only [kF]
 rw [wpC_block,wpC_seq,kD]
 have hk:=xQ s
 have hA1:=hA.rd hm1
 have hg1:GErr g w1 Te ve:=zH hg hm1 (by simpa using hgn.1)
 generalize hσ:updo _ (some (nt+7)) _=σ1
 have a1 :∀j,j<nv+1→σ1 j=σ j:=fun j hj=>by rw [←hσ];simp only [updo,upd,show j≠nt+7 by omega,show j≠nv+1 by omega,show j≠nt+6 by omega,if_false]
 have v1:σ1 (nt+7)=.int .u32 ((rdUv s).1:Nat):=by rw [←hσ];simp
 have v2:σ1 (nv+1)=.int .u32 ((rdUv s).1:Nat):=by rw [←hσ];simp [show nv+1≠nt+7 by omega]
 clear hσ
 refine go1 (v:=.bool (decide ((rdUv s).1=0))) rfl (by simp [v1];rw [Bool.eq_iff_iff];simp) ?_
 refine go1 (v:=.bool (decide ((rdUv s).1=0))) rfl (by simp) (kP ?_)
 simp only [kF]
 generalize hσ:updo _ (some (nt+16)) _=σ2
 have a2 :∀j,j<nv+2→σ2 j=σ1 j:=fun j hj=>by rw [←hσ];simp only [updo,upd,show j≠nt+16 by omega,show j≠nt+17 by omega,if_false]
 have c2:σ2 (nt+16)=.bool (decide ((rdUv s).1=0)):=by rw [←hσ];simp
 clear hσ
 have a12 :∀j,j<nv+1→σ2 j=σ j:=fun j hj=>(a2 j (by omega)).trans (a1 j hj)
 have hs2:σ2 sp=.pointer (some ⟨b0,0,none⟩):=by rw [a12 sp (by omega)];exact hs
 cases hrun with
 | known q1 q2 q3 q4 q5 q6 =>
   rw [q1] at hr1 c2
   simp only at hr1 c2
   have hcs:=hc0 rfl
   subst hcs
   rw [kI (by simp [c2]),yB]
   refine kQA (nv:=nv) huv hsp hcpl hsh hok hD hB hA1 hr1 q2 q3 q4 q5 (hE.ag (fun j hj=>a12 j (by omega)) (Nat.le_refl _)) hs2 (by omega) l2 (by omega) hg1 hgn fun σ3 w3 css3 f1 f2 f3 f4 f5=>?_
   simp only [kR]
   exact hQ σ3 w3 (some _) m _ mv css3 (fun j hj=>(f1 j (by omega)).trans (a12 j hj)) f2 f3 (by simp) f4 q6 f5
 | unk q1 q2 q3 q4 q5 q6 q7 =>
   rename_i k z s1 s2 s3 bts
   rw [q1] at hr1 c2 v2 hk
   simp only at hr1 c2 v2 hk
   rw [kG (by simp [c2];omega)]
   unfold ktUnk
   have hoff:body.size=css.flatten.length:=hcl.symm
   rw [hoff]
   refine unk_wp huv hsp hset hA1 hr1 hk q3 q4 q5 q6 (by rw [a12 E.b (by omega)];exact hE.hb) hs2 (by rw [a2 _ (by omega)];exact v2) (by omega) (by omega) (by omega) fun σ3 w3 mv3 f1 f2 f3=>?_
   simp only [kR]
   have hg3:GErr g w3 Te ve:=kOK hA1.mod f2.mod hgn hg1
   exact hQ σ3 w3 o _ _ mv3 css (fun j hj=>(f1 j (by omega)).trans (a12 j hj)) f2 hcl hc0 f3 q7 hg3
end
section
variable {P:Program} {D:Dec}
attribute [local simp] gOk updo upd ev RK.val? kL kM Addr.kK qE Value.cells undef
theorem kQC {uvr span set:FuncId} (huv:RdC P uvr fun s=>(.int .u32 (rdUv s).1,(rdUv s).2)) (hsp:kOI P span) (hset:SetC P set) {E:RE} {w:World} {sp nt nb rb b0 g nv:Nat} {pre:List Value} {m':List (Nat×List UInt8)} {s s':RS} {o':Option (List GV)} {dfl:FuncId} {body:Sc} {u x:Bool} {ver:Int} {Te:TypeId} {ve:Value} {σ:Sl} {Q:Exit→Sl→World→Prop}
  (hcpl:CplC P E.cpl g) (hsh:D.kJN) (hok:body.lists=true→OkC P E.ok) (hD:DfC P dfl body.dcs.flatten body.dcs.flatten) (hB:body.Ok P D u x)
  (hb:Blk w b0 (pre++(body.dcs.flatten++[.map none]))) (hne:rb≠b0) (hR:IsRd [b0] w rb s)
  (hrun:if x then KRun (body.dec D ver x) (rdUv s).1 none [] (rdUv s).2 o' m' s' else o'=none∧m'=[]∧s'=s)
  (hE:RV.Env E nv rb u x ver σ) (hfx:E.hasFx=true) (hs:σ sp=.pointer (some ⟨b0,0,none⟩)) (l2:sp<nv) (l4:nv+6+body.nv≤nt) (hg:GErr g w Te ve) (hgn:g≠rb∧g≠b0)
  (hQ :∀σ' w' css mv,(∀j,j<nv→σ' j=σ j)→Blk w' b0 (pre++(css.flatten++[mv]))→RepL [b0] w' [.rcd (o'.getD body.dgv)] css→Rep [b0] w' (.tag m') [mv]→css.flatten.length=body.dcs.flatten.length→IsRd [b0] w' rb s'→GErr g w' Te ve→Mod [rb,b0] w w'→Q .normal σ' w') :
  wpC P (ktBlk E sp pre.length nv nb dfl body uvr span set nt) Q σ w:=by
 have hlb:=hE.lb
 have hlf:=hE.lf hfx
 have hgl:g<w.heap.size:=World.block_lt_of_cell? w ⟨g,0,none⟩ hg
 have hrl:=hR.lt
 have hbl:=hb.lt
 have hA0:KtA w w rb b0 pre [.rcd body.dgv] [body.dcs.flatten] (.map none) [] :=
  ⟨by simpa using hb,.cons (.rcd (body.drep _ _)) .nil,.inl ⟨rfl,rfl⟩,fun r e=>by simp at e,Mod.refl _ _,hbl,hrl,hne⟩
 have fin :∀σ1 w1 css mv m1 s1,(∀j,j<nv→σ1 j=σ j)→KtA w w1 rb b0 pre [.rcd (o'.getD body.dgv)] css mv m1→m1=m'→s1=s'→css.flatten.length=body.dcs.flatten.length→IsRd (b0::ownM mv) w1 rb s1→GErr g w1 Te ve→Q .normal σ1 w1:=by
  intro σ1 w1 css mv m1 s1 f1 f2 f3 f4 f5 f6 f7
  subst f3 f4
  refine hQ σ1 w1 css mv f1 f2.blk (f2.fld.weaken (by simp)) ?_ f5 (f6.kM9 (by simp)) f7 f2.mod
  rcases f2.tag with ⟨rfl,rfl⟩|⟨r,rfl,h⟩
  ·exact .tag0
  ·refine .tag1 (by have:=(f2.nr r rfl).2.2;simpa using this) (h.mod (Mod.refl [] _) (by simp) (by simp) fun b _ hb=>?_)
   simp only [List.mem_cons,not_or] at hb
   simpa using hb.2.1
 unfold ktBlk
 rw [wpC_seq,kD]
 refine go1 (v:=.bool x) rfl (by simp [hE.hx hfx]) (kP ?_)
 simp only [kF]
 have a0 :∀j,j<nt→(updo σ (some nt) (.bool x)) j=σ j:=fun j hj=>by simp only [updo,upd,show j≠nt by omega,if_false]
 have c0:(updo σ (some nt) (.bool x)) nt=.bool x:=by simp
 generalize updo σ (some nt) (.bool x)=σ0 at a0 c0
 cases x with
 | false =>
   simp only [Bool.false_eq_true,if_false] at hrun
   obtain ⟨rfl,rfl,rfl⟩:=hrun
   rw [kG (by simp [c0]),wpC_skip]
   exact fin σ0 w _ _ [] _ (fun j hj=>a0 j (by omega)) hA0 rfl rfl (by simp) hR hg
 | true =>
 rw [if_pos rfl] at hrun
 rw [kI (by simp [c0]),wpC_seq,kD]
 refine qF rfl (vs:=[.pointer (some ⟨rb,0,none⟩)]) (by simp [a0 E.b (by omega),hE.hb]) (huv [b0] w rb s hR (by simpa using hne)) ?_
 rintro e w1 ⟨rfl,hr1,hm1⟩
 simp only at hr1 ⊢
 refine ⟨_,rfl,go1 (v:=.int .u32 ((rdUv s).1:Nat)) rfl (by simp) (kP ?_)⟩
 simp only [kF]
 have hn:=xQ s
 have hA1:=hA0.rd hm1
 have hg1:GErr g w1 Te ve:=zH hg hm1 (by simpa using hgn.1)
 have a1 :∀j,j<nv→(updo (updo σ0 (some (nt+1)) (.int .u32 ((rdUv s).1:Nat))) (some nv) (.int .u32 ((rdUv s).1:Nat))) j=σ j:=fun j hj=>by
  simp only [updo,upd,show j≠nv by omega,show j≠nt+1 by omega,if_false];exact a0 j (by omega)
 have c1:(updo (updo σ0 (some (nt+1)) (.int .u32 ((rdUv s).1:Nat))) (some nv) (.int .u32 ((rdUv s).1:Nat))) nv=.int .u32 ((rdUv s).1:Nat):=by simp
 generalize updo (updo σ0 (some (nt+1)) (.int .u32 ((rdUv s).1:Nat))) (some nv) (.int .u32 ((rdUv s).1:Nat))=σ1 at a1 c1
 rw [wpC_block,wpC_loop]
 refine ⟨fun σ' w' =>∃n o m s1 mv css,KRun (body.dec D ver true) n o m s1 o' m' s'∧(∀j,j<nv→σ' j=σ j)∧σ' nv=.int .u32 (n:Nat)∧n<4294967296∧KtA w w' rb b0 pre [.rcd (o.getD body.dgv)] css mv m∧css.flatten.length=body.dcs.flatten.length∧(o=none→css=[body.dcs.flatten])∧IsRd (b0::ownM mv) w' rb s1∧GErr g w' Te ve,
  fun σ' _=>match σ' nv with|.int _ n=>n.toNat|_=>0,⟨(rdUv s).1,none,[],(rdUv s).2,.map none,_,hrun,a1,c1,hn,hA1,by simp,fun _=>rfl,hr1,hg1⟩,?_⟩
 rintro σ2 w2 ⟨n,o,m,s1,mv,css,k1,k2,k3,k4,k5,k6,k7,k8,k9⟩
 rw [wpC_seq,wpC_seq,kD]
 refine go1 (v:=.int .u32 (n:Nat)) rfl (by simp [k3]) ?_
 refine go1 (v:=.bool (decide (0<n))) rfl (by simp) (kP ?_)
 simp only [kF]
 have a3 :∀j,j<nt→(updo (updo σ2 (some (nt+2)) (.int .u32 (n:Nat))) (some (nt+3)) (.bool (decide (0<n)))) j=σ2 j:=fun j hj=>by simp only [updo,upd,show j≠nt+3 by omega,show j≠nt+2 by omega,if_false]
 have c3:(updo (updo σ2 (some (nt+2)) (.int .u32 (n:Nat))) (some (nt+3)) (.bool (decide (0<n)))) (nt+3)=.bool (decide (0<n)):=by simp
 generalize updo (updo σ2 (some (nt+2)) (.int .u32 (n:Nat))) (some (nt+3)) (.bool (decide (0<n)))=σ3 at a3 c3
 have a32 :∀j,j<nv→σ3 j=σ j:=fun j hj=>(a3 j (by omega)).trans (k2 j hj)
 by_cases h0:0<n
 ·obtain ⟨n',rfl⟩ :∃n',n=n'+1:=⟨n-1,by omega⟩
  rw [kI (by simp [c3]),wpC_skip]
  simp only [kF]
  rw [wpC_seq,wpC_block]
  refine kQB (nv:=nv) huv hsp hset hcpl hsh hok hD hB k5 k6 k7 k8 k1 (hE.ag (fun j hj=>a32 j hj) (Nat.le_refl _)) (by rw [a32 sp l2];exact hs) l2 l4 k9 ⟨hgn.1,hgn.2,hgl⟩ fun σ4 w4 o1 m1 s2 mv1 css1 f1 f2 f3 f4 f5 f6 f7=>?_
  simp only [kR,kF]
  rw [kD]
  have t4:σ4 nv=.int .u32 ((n'+1:Nat):Int):=by rw [f1 nv (by omega),a3 nv (by omega)];exact k3
  refine go1 (v:=.int .u32 ((n'+1:Nat):Int)) rfl (by simp [t4]) ?_
  refine go1 (v:=.int .u32 (n':Nat)) rfl (by
   simp only [RK.val?,ev,updo,upd,if_true,kL,decide_true,Bool.or_true,kM]
   have e1:((n'+1:Nat):Int)-1=(n':Nat):=by omega
   rw [e1,kBS (by omega)]) ?_
  refine go1 (v:=.int .u32 (n':Nat)) rfl (by simp) (kP ?_)
  refine ⟨⟨n',o1,m1,s2,mv1,css1,f6,fun j hj=>?_,by simp,by omega,f2,f3,f4,f5,f7⟩,?_⟩
  ·simp only [updo,upd,show j≠nv by omega,show j≠nt+5 by omega,show j≠nt+4 by omega,if_false]
   exact (f1 j (by omega)).trans (a32 j hj)
  ·simp only [updo,upd,if_true,k3];omega
 ·have:n=0:=by omega
  subst this
  obtain ⟨rfl,rfl,rfl⟩:=k1.zero
  rw [kG (by simp [c3])]
  exact vP (fin σ3 w2 css mv _ _ a32 k5 rfl rfl k6 k8 k9)
structure zU where
 flex:Int
 dfl:FuncId
 ok:FuncId
 cpl:FuncId
 sc:Sc
 sdfl:FuncId
 body:Sc
 uvr:FuncId
 span:FuncId
 set:FuncId
 deriving Inhabited
def zU.env (T:zU):RE:=⟨7,8,9,2,6,true,T.ok,T.cpl⟩
def zU.n1 (T:zU):Nat:=11+T.sc.nv
def zU.t0 (T:zU):Nat:=T.n1+6+T.body.nv
def zU.t2 (T:zU):Nat:=T.t0+12
def zU.t3 (T:zU):Nat:=T.t2+1+T.sc.nt true
def zU.t4 (T:zU):Nat:=T.t3+32+T.body.nt true
def zU.rest (T:zU):List IC :=
 [.blk [⟨some (T.t0+9),.mv (.tmp 8),none⟩,⟨some (T.t0+10),.bin .geq (.tmp (T.t0+9)) (.const (.int .i16 T.flex)),none⟩,⟨some 9,.mv (.tmp (T.t0+10)),none⟩],.blk [⟨some (T.t0+11),.mv (.tmp 9),none⟩],cpF 0 10 T.t2] ++
 (T.sc.gen T.env 10 1 11 (T.t2+1) 0 ++
  [ktBlk T.env 10 (1+T.sc.dcs.flatten.length) T.n1 T.sc.nb T.sdfl T.body T.uvr T.span T.set T.t3,
   .blk [⟨some T.t4,.call T.cpl [.tmp 7],none⟩,⟨some 6,.mv (.tmp T.t4),none⟩],.ret])
def zU.gen (T:zU):IC×List RV×Nat :=
 (seqs ([cF 6 .nilIface,.blk [⟨some T.t0,.mv (.tmp 0),none⟩,⟨some (T.t0+1),.call T.dfl [.tmp T.t0],none⟩],
  .blk [⟨some (T.t0+2),.mv (.tmp 1),none⟩,⟨some (T.t0+3),.build [.slice none 0 0,.bool false] [(0,1,.tmp (T.t0+2))],none⟩,⟨some 7,.alloc [.slice none 0 0,.bool false],none⟩,⟨none,.st (.tmp 7) 2 (.tmp (T.t0+3)),none⟩],
  ldF 0 8 (T.t0+4) 0,.blk [⟨some (T.t0+8),.mv (.tmp 8),none⟩]]++T.rest),[.tmp 6],T.t4+1)
def zU.x (T:zU) (ver:Int):Bool:=decide (ver≥T.flex)
def zU.dcs (T:zU):List Value:=T.sc.dcs.flatten++(T.body.dcs.flatten++[.map none])
structure zU.Ok (T:zU) (P:Program) (D:Dec) (g:Nat) (u:Bool):Prop where
 ok:T.sc.lists=true→OkC P T.ok
 okb:T.body.lists=true→OkC P T.ok
 cpl:CplC P T.cpl g
 short:D.kJN
 dfl :∀ver,DfC P T.dfl (.int .i16 ver::T.dcs) (.int .i16 ver::T.dcs)
 sdfl:DfC P T.sdfl T.body.dcs.flatten T.body.dcs.flatten
 sc :∀x,T.sc.Ok P D u x
 body :∀x,T.body.Ok P D u x
 uv:RdC P T.uvr fun s=>(.int .u32 (rdUv s).1,(rdUv s).2)
 span:kOI P T.span
 set:SetC P T.set
def zU.Reads (T:zU) (D:Dec) (ver:Int) (s:RS) (gs:List GV) (o:Option (List GV)) (m:List (Nat×List UInt8)) (s2:RS):Prop :=
 ∃s1,T.sc.dec D ver (T.x ver) s=some (gs,s1)∧if T.x ver then KRun (T.body.dec D ver (T.x ver)) (rdUv s1).1 none [] (rdUv s1).2 o m s2 else o=none∧m=[]∧s2=s1
theorem zU.rest_wp {T:zU} {g:Nat} {u:Bool} (hT:T.Ok P D g u) {σ:Sl} {w w0:World} {b0 rb:Nat} {ver:Int} {s s2:RS} {gs:List GV} {o:Option (List GV)} {m:List (Nat×List UInt8)} {Te:TypeId} {ve:Value}
  (hb:Blk w b0 (.int .i16 ver::T.dcs)) (hr:IsRd [b0] w rb s) (hrb:rb≠b0) (hg:GErr g w Te ve) (hgb:g≠b0) (hgr:g≠rb) (hw0:Mod [b0] w0 w) (hfr:w0.heap.size≤rb) (hrd:T.Reads D ver s gs o m s2)
  (h0:σ 0=.pointer (some ⟨b0,0,none⟩)) (h2:σ 2=.bool u) (h7:σ 7=.pointer (some ⟨rb,0,none⟩)) (h8:σ 8=.int .i16 ver) :
  wpL P T.rest (postC [.tmp 6] fun e w'=>Mod [b0] w0 w'∧e=.returned (errVal s2.bad Te ve) ∧∃css,RepL [b0] w' (gs++[.rcd (o.getD T.body.dgv),.tag m]) css∧css.flatten.length=T.dcs.length∧Blk w' b0 (.int .i16 ver::css.flatten)) σ w:=by
 obtain ⟨s1,hd1,hrun⟩:=hrd
 have hn1:T.n1=11+T.sc.nv:=rfl
 have ht0:T.t0=T.n1+6+T.body.nv:=rfl
 have ht2:T.t2=T.t0+12:=rfl
 have ht3:T.t3=T.t2+1+T.sc.nt true:=rfl
 have ht4:T.t4=T.t3+32+T.body.nt true:=rfl
 unfold zU.rest
 simp only [List.cons_append,List.nil_append,wpL]
 rw [kD]
 refine go1 (v:=.int .i16 ver) rfl (by simp [h8]) ?_
 refine go1 (v:=.bool (decide (ver≥T.flex))) rfl (by simp) ?_
 refine go1 (v:=.bool (decide (ver≥T.flex))) rfl (by simp) (kP ?_)
 simp only [kF]
 rw [kD]
 refine go1 (v:=.bool (decide (ver≥T.flex))) rfl (by simp) (kP ?_)
 simp only [kF]
 generalize hσ:updo _ (some (T.t0+11)) _=σ1
 have a1 :∀j,j<T.t0→j≠9→σ1 j=σ j:=fun j hj h9=>by
  rw [←hσ];simp only [updo,upd,h9,show j≠T.t0+9 by omega,show j≠T.t0+10 by omega,show j≠T.t0+11 by omega,if_false]
 have v9:σ1 9=.bool (T.x ver):=by rw [←hσ];simp only [updo,upd,show 9≠T.t0+11 by omega,if_false,if_true,zU.x]
 clear hσ
 refine kDH (by omega) fun σ2 a2 v2=>?_
 simp only [kF]
 have a2' :∀j,j<10→j≠9→σ2 j=σ j:=fun j hj hne=>by rw [a2 j (by omega) (by omega),a1 j (by omega) hne]
 have hE:RV.Env T.env 11 rb u (T.x ver) ver σ2:=by
  refine ⟨by simp [zU.env],by simp [zU.env],fun _=>by simp [zU.env],by simp [zU.env],?_,?_,?_,fun _=>?_,fun h=>by simp [zU.env] at h⟩
  ·exact (a2' 7 (by omega) (by omega)).trans h7
  ·exact (a2' 8 (by omega) (by omega)).trans h8
  ·exact (a2' 2 (by omega) (by omega)).trans h2
  ·show σ2 9=_
   rw [a2 9 (by omega) (by omega)];exact v9
 have hs2:σ2 10=.pointer (some ⟨b0,0,none⟩):=by rw [v2,a1 0 (by omega) (by omega)];exact h0
 rw [wO]
 have hs:=Sc.sound (E:=T.env) (g:=g) (rb:=rb) (Te:=Te) (ve:=ve) (u:=u) (x:=T.x ver) (ver:=ver) hT.cpl hT.short T.sc hT.ok
 refine hs 10 1 11 (T.t2+1) 0 b0 0 [b0] s [.int .i16 ver] (T.body.dcs.flatten++[.map none]) σ2 w _ (hT.sc _) hE (by omega) (by omega) hs2 (by simp) hr (by simpa using hrb) (by simp)
  (fun y hy=>by simp only [List.mem_singleton] at hy;subst hy;exact hb.lt) hg (by simp [hgb,hgr]) (by simpa [zU.dcs] using hb) ?_
 rw [hd1]
 intro σ3 w3 css a3 hm3 hr3 hrep hl3 hb3
 simp only [kF,wpL]
 have hg3:GErr g w3 Te ve:=zH hg hm3 (by simp [hgb,hgr])
 have hpre:(Value.int .i16 ver::css.flatten).length=1+T.sc.dcs.flatten.length:=by rw [List.length_cons,hl3];omega
 rw [←hpre]
 refine kQC (pre:=.int .i16 ver::css.flatten) (D:=D) (x:=T.x ver) (ver:=ver) (u:=u) hT.uv hT.span hT.set hT.cpl hT.short hT.okb hT.sdfl (hT.body _) (by simpa using hb3) hrb hr3 hrun
  ((hE.ag a3 (Nat.le_refl _)) |> fun h=>(h.ag (fun j hj=>rfl) (show 11≤T.n1 by omega))) rfl (by rw [a3 10 (by omega)];exact hs2) (by omega) (by omega) hg3 ⟨hgr,hgb⟩ fun σ4 w4 fcs mv f1 f2 f3 f4 f5 f6 f7 f8=>?_
 simp only [kF]
 have h74:σ4 7=.pointer (some ⟨rb,0,none⟩):=by rw [f1 7 (by omega),a3 7 (by omega)];exact (a2' 7 (by omega) (by omega)).trans h7
 rw [kD]
 refine qF rfl (vs:=[.pointer (some ⟨rb,0,none⟩)]) (by simp [h74]) (hT.cpl [b0] w4 rb s2 Te ve f6 f7) ?_
 rintro e w5 ⟨rfl,e5⟩
 subst e5
 refine ⟨_,rfl,go1 (v:=errVal s2.bad Te ve) rfl (by simp) (kP ?_)⟩
 simp only [kF]
 refine zP ?_
 have hmod:Mod [b0] w0 w5:=Mod.drop (b:=rb) (S:=[b0]) (((hw0.mono (by simp)).trans (hm3.mono (by simp))).trans (f8.mono (by simp))) hfr
 refine ret1 (v:=errVal s2.bad Te ve) (by simp) ⟨hmod,rfl,css++(fcs++[[mv]]),?_,?_,?_⟩
 ·refine RepL.append ((hrep.mod f8 (by simp)).weaken (by simp)) ?_
  have:RepL [b0] w5 ([.rcd (o.getD T.body.dgv)]++[.tag m]) (fcs++[[mv]]):=f3.append (.cons f4 .nil)
  exact this
 ·simp only [List.flatten_append,List.length_append,hl3,f5,zU.dcs,List.flatten_cons,List.flatten_nil,List.append_nil,List.length_cons,List.length_nil]
 ·simpa [List.append_assoc] using f2
end
section
variable {P:Program} {D:Dec}
attribute [local simp] gOk updo upd ev RK.val? kL kM Addr.kK qE Value.cells undef
theorem zU.kOL {T:zU} {g:Nat} {u:Bool} (hm:P.follows .mixedOrders=true) {f:FuncId} (h:kH P f=some T.gen) (hT:T.Ok P D g u) {w:World} {b0:Nat} {ver:Int} {base:Option Addr} {len cap:Nat} {src:List UInt8} {gs:List GV} {o:Option (List GV)} {m:List (Nat×List UInt8)} {s2:RS}
  {Te:TypeId} {ve:Value} (hb:Blk w b0 (.int .i16 ver::T.dcs)) (hsrc:qW w base len cap src) (hbase :∀a,base=some a→a.block≠b0∧a.block<w.heap.size) (hshort:src.length≤1152921504606846976)
  (hg:GErr g w Te ve) (hgb:g≠b0) (hrd:T.Reads D ver ⟨src,false,base.isNone⟩ gs o m s2) :
  Calls P f [.pointer (some ⟨b0,0,none⟩),.slice base len cap,.bool u].toArray w fun e w'=>Mod [b0] w w'∧e=.returned (errVal s2.bad Te ve) ∧∃css,RepL [b0] w' (gs++[.rcd (o.getD T.body.dgv),.tag m]) css∧css.flatten.length=T.dcs.length∧Blk w' b0 (.int .i16 ver::css.flatten):=by
 have hn1:T.n1=11+T.sc.nv:=rfl
 have ht0:T.t0=T.n1+6+T.body.nv:=rfl
 have ht2:T.t2=T.t0+12:=rfl
 have ht3:T.t3=T.t2+1+T.sc.nt true:=rfl
 have ht4:T.t4=T.t3+32+T.body.nt true:=rfl
 unfold zU.gen at h
 refine kT h hm (by simp only [List.length_cons,List.length_nil];omega) ?_
 rw [yB]
 have s0:qE [.pointer (some ⟨b0,0,none⟩),.slice base len cap,.bool u] 0=.pointer (some ⟨b0,0,none⟩):=rfl
 have s1:qE [.pointer (some ⟨b0,0,none⟩),.slice base len cap,.bool u] 1=.slice base len cap:=rfl
 have s2':qE [.pointer (some ⟨b0,0,none⟩),.slice base len cap,.bool u] 2=.bool u:=rfl
 generalize qE [.pointer (some ⟨b0,0,none⟩),.slice base len cap,.bool u]=σ0 at s0 s1 s2'
 simp only [List.cons_append,List.nil_append,wpL]
 refine kJM ?_
 simp only [kF]
 have hd:=hT.dfl ver w b0 [] [] (by simpa using hb)
 refine kPB (v:=.pointer (some ⟨b0,0,none⟩)) (by rw [upd_ne _ _ (by omega)];exact s0) hd ?_
 rintro e w1 ⟨rfl,hb1,hm1⟩
 refine ⟨_,rfl,fun σ1 a1=>?_⟩
 simp only [List.nil_append,List.append_nil] at hb1
 simp only [kF]
 refine mkRd_wp (v:=.slice base len cap) (by rw [a1 _ (by omega),upd_ne _ _ (by omega)];exact s1) rfl (by simp [Value.cells,Value.oneCell']) (by omega) fun σ2 w2 a2 v2 hb2 hm2=>?_
 simp only [kF]
 have a2' :∀j,j<T.t0→j≠6→j≠7→σ2 j=σ0 j:=fun j hj h6 h7=>by rw [a2 j (by omega) h7,a1 j (by omega),upd_ne _ _ h6]
 have hb12:Blk w2 b0 (.int .i16 ver::T.dcs):=hb1.mod hm2 (by simp)
 have hr2:IsRd [b0] w2 w1.heap.size ⟨src,false,base.isNone⟩:=by
  refine ⟨⟨base,len,cap,hb2,((hsrc.mod hm1 (fun a ha=>by simpa using (hbase a ha).1)).mod hm2 (by simp)),rfl,fun a ha=>⟨?_,by simpa using (hbase a ha).1,Nat.lt_of_lt_of_le (hbase a ha).2 (Nat.le_trans hm1.size hm2.size)⟩⟩,hshort⟩
  have:=(hbase a ha).2;have:=hm1.size;omega
 have hgl:g<w.heap.size:=World.block_lt_of_cell? w ⟨g,0,none⟩ hg
 have hg2:GErr g w2 Te ve:=zH (zH hg hm1 (by simpa using hgb)) hm2 (by simp)
 have hgr:g≠w1.heap.size:=by have:=hm1.size;omega
 have hbr:w1.heap.size≠b0:=by have:=hb1.lt;omega
 refine kQJ (v:=.int .i16 ver) (by rw [a2' 0 (by omega) (by omega) (by omega)];exact s0) hb12 rfl (by omega) (by omega) fun σ4 a4 v4=>?_
 simp only [kF]
 refine mvF_wp fun σ5 a5=>?_
 simp only [kF]
 have a5' :∀j,j<T.t0→j≠6→j≠7→j≠8→σ5 j=σ0 j:=fun j hj h6 h7 h8=>by rw [a5 j (by omega),a4 j (by omega) h8,a2' j hj h6 h7]
 refine zU.rest_wp hT hb12 hr2 hbr hg2 hgb hgr (hm1.trans hm2.nil) hm1.size hrd ?_ ?_ ?_ ?_
 ·rw [a5' 0 (by omega) (by omega) (by omega) (by omega)];exact s0
 ·rw [a5' 2 (by omega) (by omega) (by omega) (by omega)];exact s2'
 ·rw [a5 7 (by omega),a4 7 (by omega) (by omega)];exact v2
 ·rw [a5 8 (by omega)];exact v4
theorem kKJ {T:zU} {g:Nat} (hm:P.follows .mixedOrders=true) {f newp setv rf rd tell:FuncId} {z:List Value} {tl:Tl} (h:kH P f=some (kDV newp setv rf tell)) (hn:kH P newp=some (kBV z T.dfl))
  (hz:DfC P T.dfl z (.int .i16 0::T.dcs)) (hs:kH P setv=some kC0) (hr:kH P rf=some (kII rd false)) (hrd:kH P rd=some T.gen) (hT:T.Ok P D g false) (htl:kNZ P tell 1 tl.ty)
  {w:World} {ver:Int} {sv:Value} {src:List UInt8} {ok:Nat→Prop} {Te:TypeId} {ve:Value} {gs:List GV} {o:Option (List GV)} {m:List (Nat×List UInt8)} {s':RS} (hdec:T.Reads D ver ⟨src,false,false⟩ gs o m s') (hbad:s'.bad=false)
  (hty:tl.ty (gs++[.rcd (o.getD T.body.dgv),.tag m]))
  (hsv:SlC ok w sv src.length (u8s src)) (hpos:0<src.length) (hl:src.length≤lim) (hver:IntKind.i16.wrap ver=ver) (hg:GErr g w Te ve) :
  Calls P f [.int .i64 ver,sv].toArray w (DoorR w (GV.rcd (gs++[.rcd (o.getD T.body.dgv),.tag m])).told):=by
 unfold kDV at h
 refine kT h hm (by simp) ?_
 clear h
 have hgl:g<w.heap.size:=World.block_lt_of_cell? w ⟨g,0,none⟩ hg
 rw [wpC_seq,kD]
 refine jI fun w1 hb1 hm1=>?_
 refine go1 (v:=.bool false) rfl (by simp) (kP ?_)
 simp only [kF]
 rw [wpC_seq,kD]
 refine qF rfl (vs:=[]) rfl (kKY hm hn hz) ?_
 rintro e w2 ⟨rfl,hb2,hm2⟩
 have hs1:=hb1.lt
 have hne:w.heap.size≠w1.heap.size:=by omega
 have hm02:Mod [] w w2:=hm1.trans hm2
 refine ⟨_,rfl,go1 (v:=.pointer (some ⟨w1.heap.size,0,none⟩)) rfl (by simp) (kP ?_)⟩
 simp only [kF]
 rw [wpC_seq,kD]
 refine go1 (v:=.pointer (some ⟨w1.heap.size,0,none⟩)) rfl (by simp) ?_
 refine go1 (v:=.int .i64 ver) rfl (by simp) ?_
 refine go1 (v:=.int .i16 ver) rfl (by simp [hver]) ?_
 refine qF rfl (vs:=[.pointer (some ⟨w1.heap.size,0,none⟩),.int .i16 ver]) (by simp) (kPR hm hs hb2) ?_
 rintro e w3 ⟨rfl,hb3,hm3⟩
 refine ⟨_,rfl,kP ?_⟩
 simp only [kF]
 have hm13:Mod [] w1 w3:=Mod.drop (b:=w1.heap.size) (S:=[]) (hm2.nil.trans hm3) (Nat.le_refl _)
 have hm03:Mod [] w w3:=hm1.trans hm13
 rw [wpC_seq,wpC_seq,kD]
 refine go1 (v:=.pointer (some ⟨w1.heap.size,0,none⟩)) rfl (by simp) ?_
 refine go1 (v:=sv) rfl (by simp) ?_
 refine goCopy (v:=sv) (l:=src) (ok:=ok) (by simp) (hsv.mod hm03 (by simp) fun _ _ h=>h) hl fun v4 w4 hd4 hm4=>?_
 obtain ⟨Bs,cap,rest,rfl,hcap,hlow,hblk,hrest⟩ :∃B cap rest,v4=.slice (some ⟨B,0,none⟩) src.length cap∧src.length≤cap∧w3.heap.size≤B∧Blk w4 B (u8s src++rest)∧rest.length=cap-src.length:=by
  rcases hd4.sl with ⟨-,h⟩|h
  ·rw [h] at hpos;simp at hpos
  ·exact h
 have hby:qW w4 (some ⟨Bs,0,none⟩) src.length cap src:=by
  refine ⟨rfl,hcap,by simp,fun a ha=>?_⟩
  simp only [Option.some.injEq] at ha;subst ha
  have:=hblk.cells.take (u8s src).length
  rwa [List.take_left] at this
 have hbl:=hb3.lt
 have hm04:Mod [] w w4:=hm03.trans hm4
 refine qF rfl (vs:=[.pointer (some ⟨w1.heap.size,0,none⟩),.slice (some ⟨Bs,0,none⟩) src.length cap]) (by simp) (rf_call hm hr (R:=fun e w' =>∃css,e=.returned .nilIface∧RepL [w1.heap.size] w' (gs++[.rcd (o.getD T.body.dgv),.tag m]) css∧css.flatten.length=T.dcs.length∧Blk w' w1.heap.size (.int .i16 ver::css.flatten)∧Mod [w1.heap.size] w4 w') (fun e w' ⟨_,he,_⟩=>⟨_,he⟩) ?_) ?_
 ·refine (zU.kOL hm hrd hT (hb3.mod hm4 (by simp)) hby (fun a ha=>?_) (by unfold lim at hl;omega) (zH hg hm04 (by simp)) (by omega) hdec).mono ?_
  ·simp only [Option.some.injEq] at ha;subst ha
   exact ⟨by show Bs≠_;omega,hblk.lt⟩
  ·rintro e w' ⟨q1,rfl,css,q3,q4,q5⟩
   exact ⟨css,by rw [hbad];rfl,q3,q4,q5,q1⟩
 rintro e w5 ⟨css,rfl,hrep,hcl,hb5,hm5⟩
 refine ⟨_,rfl,?_⟩
 refine go1 (v:=.bool false) rfl (by simp) (kP ?_)
 simp only [kF]
 rw [kG (by simp),wpC_skip]
 simp only [kF]
 rw [wpC_seq,kD]
 refine go1 (v:=.pointer (some ⟨w1.heap.size,0,none⟩)) rfl (by simp) ?_
 have hcells:Cells w5 ⟨w1.heap.size,0+1,none⟩ css.flatten:=by
  have:=hb5.cells.sub 1
  simpa using this
 refine qF rfl (vs:=[.pointer (some ⟨w1.heap.size,0,none⟩)]) (by simp) (htl [w1.heap.size] w5 w1.heap.size 0 (gs++[.rcd (o.getD T.body.dgv),.tag m]) css hty hrep hb5.lt hcells) ?_
 rintro e w7 ⟨cs,rfl,hrt,hm7⟩
 refine ⟨_,rfl,?_⟩
 have hm15:Mod [] w1 w5:=Mod.drop (b:=w1.heap.size) (S:=[]) ((hm13.trans hm4).nil.trans hm5) (Nat.le_refl _)
 have hm17:Mod [] w1 w7:=hm15.trans hm7
 have hb17:Blk w7 w.heap.size tzero:=hb1.mod hm17 (by simp)
 refine goSt (b:=w.heap.size) (v:=.agg cs.toArray) (by simp) (by simp) hb17 (by simpa using hrt.five) rfl (by simpa using hrt.oneCell) fun w8 hb8 hm8=>?_
 refine go1 (v:=.bool true) rfl (by simp) (kP ?_)
 simp only [kF]
 have hb8:Blk w8 w.heap.size cs:=by simpa using hb8
 have hs16:=hm15.size
 refine retT (b:=w.heap.size) (cs:=cs) (by simp) (by simp) hb8 hrt.five ⟨cs,rfl,?_,?_⟩
 ·exact hrt.mod hm8 (by simp only [List.mem_singleton];rintro b rfl;omega) fun b _ hb=>by omega
 ·exact Mod.drop (b:=w.heap.size) (S:=[]) (hm1.nil.trans (hm17.nil.trans hm8)) (Nat.le_refl _)
end
def apF (F:Nat→Nat) (has:Nat→Bool) (p:PK) (x:Bool) (f:FuncId):Bool :=
 let ok (c:Nat) (l:List Nat):Bool:=f==F c&&hasAll has (c::l)
 let uv:=[xV,kBM,kMZ]
 match p with
 | .bool=>ok kJI []
 | .i8=>ok kJJ []
 | .i16=>ok kAF [wF]
 | .u16=>ok wF []
 | .i32=>ok vQ [wG]
 | .i64=>ok kHQ [kGD]
 | .str=>if x then ok wC uv else ok kB8 [kAF,wF]
 | .nstr=>if x then ok wH (wC::uv) else ok kAG [kB8,kAF,wF]
 | .byt=>if x then ok kBN uv else ok kHR [vQ,wG]
 | _=>false
def apL (F:Nat→Nat) (has:Nat→Bool) (nul x:Bool) (f:FuncId):Bool :=
 let ok (c:Nat) (l:List Nat):Bool:=f==F c&&hasAll has (c::l)
 let uv:=[xV,kBM,kMZ]
 if nul then (if x then ok xW uv else ok uO [vQ,wG])
 else (if x then ok u7 uv else ok kEB [vQ,wG])
def Ap.okB (F:Nat→Nat) (has:Nat→Bool) (hf x:Bool):Ap→Bool
 | .nil=>true
 | .prm _ _ p a rest=>(!a.fx||hf)&&apF F has p x (a.sel x)&&rest.okB F has hf x
 | .uid _ f rest=>(f==F kEA&&has kEA)&&rest.okB F has hf x
 | .vst _ _ a1 a2 rest=>(!a1.fx||hf)&&(!a2.fx||hf)&&apF F has .str x (a1.sel x)&&apF F has .nstr x (a2.sel x)&&rest.okB F has hf x
 | .lsp _ nul ln p a rest=>(!ln.fx||hf)&&(!a.fx||hf)&&apL F has nul x (ln.sel x)&&apF F has p x (a.sel x)&&rest.okB F has hf x
 | .lss _ nul ln _ body rest=>(!ln.fx||hf)&&apL F has nul x (ln.sel x)&&body.okB F has hf x&&rest.okB F has hf x
 | .sub _ _ body rest=>body.okB F has hf x&&rest.okB F has hf x
 | .tags ln uv ap=>hf&&(ln==F tLen&&uv==F xV&&ap==F kED&&hasAll has [tLen,xV,kBM,kMZ,kED,kHS,kEC])
section
variable {P:Program} {F:Nat→Nat} {has:Nat→Bool} {f:FuncId}
structure BehFs where
 mx:FuncId
 newp:FuncId
 maxv:FuncId
 setv:FuncId
 rf:FuncId
 rd:FuncId
 ap:FuncId
 beh:FuncId
 sm:FuncId
structure BehOk (P:Program) (F:Nat→Nat) (has:Nat→Bool) (M:BehFs) (T:Top) (A:ATop) (fx:List FX) (flex:Int) (z:List Value) (most:Nat):Prop where
 mx:kH P M.mx=some (uJ M.newp M.maxv)
 maxv:kH P M.maxv=some (kCZ most)
 newp:kH P M.newp=some (kBV z T.dfl)
 setv:kH P M.setv=some kC0
 rf:kH P M.rf=some (kII M.rd false)
 rd:kH P M.rd=some T.gen
 ap:kH P M.ap=some A.gen
 beh:kH P M.beh=some (behCode M.newp M.setv M.rf M.ap)
 sm:kH P M.sm=some (FX.kFT fx flex)
 fxs:FX.OkL P fx
 cnt:Nat.blt fx.length 1000=true
 dfl :∃l,kH P T.dfl=some (kPH l)∧dfOk l (T.sc.dcs.flatten.length+1)∧z.length=T.sc.dcs.flatten.length+1∧kGO l z=.int .i16 0::T.sc.dcs.flatten ∧∀ver,kGO l (.int .i16 ver::T.sc.dcs.flatten)=.int .i16 ver::T.sc.dcs.flatten
 dfs:kCH P T.sc.dfs
 okT:T.okB F has=true
 okA:(A.ap.okB F has A.flex.isSome false&&(A.flex.isNone||A.ap.okB F has A.flex.isSome true))=true
 rt:rtOk T A ⟨FX.fds fx,flex⟩ most=true
 most:most<32768
variable {M:BehFs} {T:Top} {A:ATop} {fx:List FX} {flex:Int} {z:List Value} {most:Nat}
theorem BehOk.len (h:BehOk P F has M T A fx flex z most) (size:Nat.ble (FD.maxL (decide (flex≥0)) (FX.fds fx)+tagM (decide (flex≥0))) 70368744176664=true) (sizef:Nat.ble (FD.maxL false (FX.fds fx)+tagM false) 70368744176664=true) {t:TR} (hk:t.kok) (v:Int):(kIN ⟨FX.fds fx,flex⟩ v t).length+1000≤lim:=by
 have hp:FD.zN (FX.fds fx)=true:=by have:=h.rt;simp only [rtOk,Bool.and_eq_true] at this;exact this.1
 suffices (kIN ⟨FX.fds fx,flex⟩ v t).length≤70368744176664 by unfold lim;omega
 refine kNU hp hk ?_
 cases hf:MD.qZ ⟨FX.fds fx,flex⟩ v with
 | false=>exact Nat.le_of_ble_eq_true sizef
 | true =>
   have hx:decide (flex≥0)=true:=by
    simp only [MD.qZ,Bool.and_eq_true] at hf;exact hf.1
   have:=Nat.le_of_ble_eq_true size
   rwa [hx] at this
end
def kcell (k:Nat):Value:=.int .u32 (k:Nat)
structure KRaw (w:World) (n0:Nat) (kv:Value) (ks:List Nat):Prop where
 sl:(kv=.slice none 0 0∧ks=[]) ∨∃BA cap rest,kv=.slice (some ⟨BA,0,none⟩) ks.length cap∧ks.length≤cap∧n0≤BA∧Blk w BA (ks.map kcell++rest)∧rest.length=cap-ks.length
section
variable {P:Program}
attribute [local simp] bnd wpC wpR RI.wp gOk RK.run kF kR updo upd ev qE postC rvals RV.val zR kL
end
section
variable {P:Program}
attribute [local simp] gOk updo upd ev RK.val? kL kM Addr.kK qE Value.cells undef
end
end Go.Msk
namespace Go.Msk
open Go.RowKit
set_option maxRecDepth 100000
mutual
/-- A field is as by default. -/
def FD.isUs:FD→TR→Bool
 | .mk kind _ _ null _ dfl _ sub,t =>
   if kind=8∨kind=9 then (if null≥0 then t.null else decide (t.s.length=0))
   else if kind=10 then kE8 sub 0 t&&decide ((kU sub t.u).length=0)
   else decide (beI (zJ kind) t.n=beI (zJ kind) dfl)
def kE8:List FD→Nat→TR→Bool
 | [],_,_=>true
 | f::l,i,t=>f.isUs (t.at i)&&kE8 l (i+1) t
end
mutual
/-- Such kinds alone. -/
def FD.usK:FD→Bool
 | .mk kind _ _ _ tag _ _ sub=>decide (tag<2147483648)&&decide (kind≠0)&&decide (kind≠7)&&decide (kind≠11)&&decide (sub.length<1000)&&usKL sub
def usKL:List FD→Bool
 | []=>true
 | f::l=>f.usK&&usKL l
end
theorem kLC :∀{l:List FD},usKL l=true →∀f∈l,f.usK=true
 | [],_,f,h=>by simp at h
 | a::l,hl,f,h=>by
   simp only [usKL,Bool.and_eq_true] at hl
   rcases List.mem_cons.1 h with rfl|h
   ·exact hl.1
   ·exact kLC hl.2 f h
theorem FD.usK_tag {f:FD} (h:f.usK=true):f.tag<2147483648:=by
 cases f
 simp only [FD.usK,Bool.and_eq_true,decide_eq_true_eq] at h
 exact h.1.1.1.1.1
theorem kI3 :∀{fds:List FD} {i:Nat} {x:TR} {j:Nat} {f:FD},kE8 fds i x=true→fds[j]?=some f→f.isUs (x.at (i+j))=true
 | f0::fds,i,x,0,f,h,hj=>by
   simp only [List.getElem?_cons_zero,Option.some.injEq] at hj
   subst hj
   simp only [kE8,Bool.and_eq_true] at h
   exact h.1
 | f0::fds,i,x,j+1,f,h,hj=>by
   simp only [kE8,Bool.and_eq_true] at h
   have:=kI3 h.2 (by simpa using hj)
   rwa [show i+(j+1)=i+1+j by omega]
theorem kI4 :∀{fds:List FD} {i:Nat} {x:TR},(∀(j:Nat) (f:FD),fds[j]?=some f→f.isUs (x.at (i+j))=true)→kE8 fds i x=true
 | [],_,_,_=>rfl
 | f0::fds,i,x,h=>by
   simp only [kE8,Bool.and_eq_true]
   refine ⟨by simpa using h 0 f0 rfl,kI4 fun j f hj=>?_⟩
   have:=h (j+1) f (by simpa using hj)
   rwa [show i+1+j=i+(j+1) by omega]
section
variable {P:Program} {F:Nat→Nat}
attribute [local simp] gOk updo upd ev RK.val? kL kM Addr.kK qE Value.cells undef
def UsC (P:Program) (F:Nat→Nat) (f:FD):Prop :=
 ∀(w:World) (cs:List Value) (t:TR) (ts:List Value),RepF anyB w f cs→RepT anyB w t ts→Calls P (F uR) [.agg cs.toArray,.agg ts.toArray].toArray w fun e w'=>e=.returned (.bool (f.isUs t))∧Mod [] w w'
theorem us_call (hm : P.follows .mixedOrders=true) (h : kH P (F uR)=some (ir_susual_ F)) (hat : kH P (F sAt)=some (ir_sAt F)) (hsm : kH P (F vW)=some (ir_sSame F)) (hfx : kH P (F yU)=some (ir_sFixed F)) (hwd : kH P (F kBH)=some (ir_sWidth F))
  (hun : kH P (F yA)=some (ir_sUnknown F)) (hkn : kH P (F vR)=some (ir_sKnown F)) {f : FD} (hk : f.usK=true) (hU :∀g∈f.sub,UsC P F g) : UsC P F f := by
 intro w fcs t ts hrf hrt
 obtain ⟨kind,frm,to,null,tag,dfl,of,sub⟩ := f
 simp only [FD.usK,Bool.and_eq_true,decide_eq_true_eq] at hk
 obtain ⟨⟨⟨⟨⟨htag,hk0⟩,hk7⟩,hk11⟩,hsl⟩,hsubs⟩ := hk
 unfold ir_susual_ at h
 refine kT h hm (by simp) ?_
 clear h
 have h8 := hrf.eight
 have h5 := hrt.five
 have hrf0 := hrf
 have hrt0 := hrt
 cases hrf with
 | mk hs1 hs2 =>
 rename_i fv css
 cases hrt with
 | @mk n s xn l u sv lv uv tss uss a1 a2 a3 a4 a5 =>
 rw [wpC_seq,kD]
 refine wB (v := .agg [.int .i64 kind,.int .i64 frm,.int .i64 to,.int .i64 null,.int .i64 tag,.int .i64 dfl,.int .i64 of,fv].toArray) (by simp) fun w1 hb1 hm1=>?_
 refine wB (v := .agg [.int .i64 n,sv,.bool xn,lv,uv].toArray) (by simp) fun w2 hb2 hm2=>?_
 have hb1 : Blk w2 w.heap.size [.int .i64 kind,.int .i64 frm,.int .i64 to,.int .i64 null,.int .i64 tag,.int .i64 dfl,.int .i64 of,fv] := Blk.mod (by simpa using hb1) hm2 (by simp)
 have hb2 : Blk w2 w1.heap.size [.int .i64 n,sv,.bool xn,lv,uv] := by simpa using hb2
 have hm02 := hm1.trans hm2
 have c1 := fun k=>hb1.cell k
 have c2 := fun k=>hb2.cell k
 refine go1 (v := .bool false) rfl rfl (kP ?_)
 simp only [kF]
 rw [wpC_seq,wpC_seq,kD]
 refine go1 (v := .pointer (some ⟨w.heap.size,0,none⟩)) rfl (by simp) ?_
 refine go1 (v := .int .i64 kind) rfl (by simp [c1]) (kP ?_)
 simp only [kF]
 generalize hσ : updo _ (some 10) _=σ1
 have s2 : σ1 2=.pointer (some ⟨w.heap.size,0,none⟩) := by rw [←hσ];simp
 have s3 : σ1 3=.pointer (some ⟨w1.heap.size,0,none⟩) := by rw [←hσ];simp
 have s10 : σ1 10=.int .i64 kind := by rw [←hσ];simp
 clear hσ
 rw [wpC_block]
 unfold ir_susual__5
 rw [wpC_seq,kD]
 refine go1 (v := .bool false) rfl (by simp [s10];omega) ?_
 refine go1 (v := .bool false) rfl (by simp) (kP ?_)
 simp only [kF]
 rw [kG (by simp),wpC_seq,kD]
 refine go1 (v := .bool false) rfl (by simp [s10];omega) ?_
 refine go1 (v := .bool false) rfl (by simp) (kP ?_)
 simp only [kF]
 rw [kG (by simp)]
 unfold ir_susual__4
 rw [wpC_seq,wpC_seq,kD]
 refine go1 (v := .bool (decide (kind=8))) rfl (by simp [s10];rfl) ?_
 refine go1 (v := .bool (decide (kind=8))) rfl (by simp) (kP ?_)
 simp only [kF]
 -- behind the question whether it is a text
 suffices rest :∀σ : Sl,σ 2=.pointer (some ⟨w.heap.size,0,none⟩)→σ 3=.pointer (some ⟨w1.heap.size,0,none⟩)→σ 10=.int .i64 kind→σ 36=.bool (decide (kind=8∨kind=9)) →∀N : Sl→World→Prop,∀Q : Exit→Sl→World→Prop,(∀σ w',Q .ret σ w'=(postC [.tmp 4] fun e w'=>e=.returned (.bool ((FD.mk kind frm to null tag dfl of sub).isUs (.mk n s xn l u)))∧Mod [] w w') .ret σ w')→(∀σ',(∀j,j<11→σ' j=σ j) →¬(kind=8∨kind=9)→kind≠10→Q .normal σ' w2) →
   wpC P (.cond (.tmp 36)
         (.seq (.seq (.blk [⟨(some (39)),.fad (.tmp 2) 3,none⟩,⟨(some (40)),.ld (.tmp 39),none⟩,⟨(some (41)),.bin .geq (.tmp 40) (.const (.int .i64 0)),none⟩])
          (.cond (.tmp 41) (.seq (.blk [⟨(some (42)),.fad (.tmp 3) 2,none⟩,⟨(some (43)),.ld (.tmp 42),none⟩,⟨(some (4)),.mv (.tmp 43),none⟩]) (.ret)) (.skip)))
         (.seq (.blk [⟨(some (44)),.fad (.tmp 3) 1,none⟩,⟨(some (45)),.ld (.tmp 44),none⟩,⟨(some (46)),.len (.tmp 45),none⟩,⟨(some (47)),.bin .eql (.tmp 46) (.const (.int .i64 0)),none⟩,⟨(some (4)),.mv (.tmp 47),none⟩]) (.ret)))
         (.seq (.blk [⟨(some (49)),.bin .eql (.tmp 10) (.const (.int .i64 11)),none⟩,⟨(some (48)),.mv (.tmp 49),none⟩])
         (.cond (.tmp 48)
          (.seq (.blk [⟨(some (50)),.fad (.tmp 3) 3,none⟩,⟨(some (51)),.ld (.tmp 50),none⟩,⟨(some (52)),.len (.tmp 51),none⟩,⟨(some (53)),.bin .eql (.tmp 52) (.const (.int .i64 0)),none⟩,⟨(some (4)),.mv (.tmp 53),none⟩]) (.ret))
          (.seq (.blk [⟨(some (55)),.bin .eql (.tmp 10) (.const (.int .i64 10)),none⟩,⟨(some (54)),.mv (.tmp 55),none⟩])
          (.cond (.tmp 54) (ir_susual__3 F) (.skip)))))) Q σ w2 by
  have fin :∀(σ : Sl),σ 2=.pointer (some ⟨w.heap.size,0,none⟩)→σ 3=.pointer (some ⟨w1.heap.size,0,none⟩) →¬(kind=8∨kind=9)→kind≠10 →
    wpC P (.seq (ir_susual__6 F) .ret) (postC [.tmp 4] fun e w'=>e=.returned (.bool ((FD.mk kind frm to null tag dfl of sub).isUs (.mk n s xn l u)))∧Mod [] w w') σ w2 := by
   intro σ k2 k3 hn89 hn10
   have he : (FD.mk kind frm to null tag dfl of sub).isUs (.mk n s xn l u)=decide (beI (zJ kind) n=beI (zJ kind) dfl) := by
    rw [FD.isUs,if_neg hn89,if_neg hn10];rfl
   rw [he]
   unfold ir_susual__6
   rw [wpC_seq]
   show wpD P _ [] _ w2.drew _
   have hmd : Mod [] w2 w2.drew := Mod.drew _ _
   have hm0d := hm02.trans hmd
   have hb1d := hb1.mod hmd (by simp)
   have hb2d := hb2.mod hmd (by simp)
   have c1d := fun k=>hb1d.cell k
   have c2d := fun k=>hb2d.cell k
   have hw8 : zJ kind ≤ 8 := by unfold zJ;repeat' split
                                all_goals omega
   refine zM (fun i v w'=>match i with|4=>v=.int .i64 (zJ kind)|5=>SlC anyB w' v (beI (zJ kind) n).length (u8s (beI (zJ kind) n))|10=>v=.int .i64 (zJ kind)|11=>SlC anyB w' v (beI (zJ kind) dfl).length (u8s (beI (zJ kind) dfl))|12=>v=.bool (decide (beI (zJ kind) n=beI (zJ kind) dfl))|_=>True) (by
    intro i v w w' h hm
    split at h
    ·exact h
    ·exact h.keep hm
    ·exact h
    ·exact h.keep hm
    ·exact h
    ·trivial) ?_
   refine bo1 (v := .pointer (some ⟨w1.heap.size,0,none⟩)) rfl (by simp [k3]) ?_
   refine bo1 (v := .int .i64 n) rfl (by simp [c2d]) ?_
   refine bo1 (v := .pointer (some ⟨w.heap.size,0,none⟩)) rfl (by simp [k2]) ?_
   refine bo1 (v := .int .i64 kind) rfl (by simp [c1d]) ?_
   refine jB (vs := [.int .i64 kind]) (by simp) (by simp) (fun w' hm' _=>(kC1 hm hwd).mono ?_) ?_
   ·rintro e w'' ⟨rfl,rfl⟩;exact ⟨_,rfl,Mod.refl _ _,rfl⟩
   rintro v4 ⟨wv4,ev4⟩
   have ev4 : v4=.int .i64 (zJ kind) := ev4
   subst ev4
   refine jB (vs := [.int .i64 n,.int .i64 (zJ kind)]) (by simp) (by simp) (fun w' hm' _=>(xS hm hfx (n := n) (k := zJ kind) hw8).mono ?_) ?_
   ·rintro e w'' ⟨v,rfl,hd,hmm⟩;exact ⟨_,rfl,hmm,hd.slc.any⟩
   rintro v5 ⟨wv5,-⟩
   refine bo1 (v := .pointer (some ⟨w.heap.size,5,none⟩)) rfl (by simp [k2]) ?_
   refine bo1 (v := .int .i64 dfl) rfl (by simp [c1d]) ?_
   refine bo1 (v := .pointer (some ⟨w.heap.size,0,none⟩)) rfl (by simp [k2]) ?_
   refine bo1 (v := .int .i64 kind) rfl (by simp [c1d]) ?_
   refine jB (vs := [.int .i64 kind]) (by simp) (by simp) (fun w' hm' _=>(kC1 hm hwd).mono ?_) ?_
   ·rintro e w'' ⟨rfl,rfl⟩;exact ⟨_,rfl,Mod.refl _ _,rfl⟩
   rintro v10 ⟨wv10,ev10⟩
   have ev10 : v10=.int .i64 (zJ kind) := ev10
   subst ev10
   refine jB (vs := [.int .i64 dfl,.int .i64 (zJ kind)]) (by simp) (by simp) (fun w' hm' _=>(xS hm hfx (n := dfl) (k := zJ kind) hw8).mono ?_) ?_
   ·rintro e w'' ⟨v,rfl,hd,hmm⟩;exact ⟨_,rfl,hmm,hd.slc.any⟩
   rintro v11 ⟨wv11,-⟩
   refine jB (vs := [v5,v11]) (by simp) (by simp) (fun w' hm' hkn=>?_) ?_
   ·have q5 := qY (j := 5) (t := 83) hkn (by simp) rfl rfl (by simp) rfl
    have q11 := qY (j := 11) (t := 89) hkn (by simp) rfl rfl (by simp) rfl
    have q5 : SlC anyB w' v5 (beI (zJ kind) n).length (u8s (beI (zJ kind) n)) := by simpa using q5
    have q11 : SlC anyB w' v11 (beI (zJ kind) dfl).length (u8s (beI (zJ kind) dfl)) := by simpa using q11
    refine (kAM hm hsm q5 q11 (by rw [zL];omega)).mono ?_
    rintro e w'' ⟨rfl,hmm⟩
    exact ⟨_,rfl,hmm,rfl⟩
   rintro v12 ⟨wv12,ev12⟩
   have ev12 : v12=.bool (decide (beI (zJ kind) n=beI (zJ kind) dfl)) := ev12
   subst ev12
   refine bo1 (v := .bool (decide (beI (zJ kind) n=beI (zJ kind) dfl))) rfl (by simp) ?_
   intro w' hm' hkn
   refine kP ?_
   simp only [kF]
   exact ret1 (by simp) ⟨rfl,hm0d.trans hm'⟩
  by_cases k8 : kind=8
  ·rw [kI (by simp [k8]),wpC_skip]
   refine rest _ (by simp [s2]) (by simp [s3]) (by simp [s10]) (by simp [k8]) (fun _ _=>True) _ (fun σ w'=>rfl) fun σ' hfr hn _=>absurd (.inl k8) hn
  ·rw [kG (by simp [k8]),kD]
   refine go1 (v := .bool (decide (kind=9))) rfl (by simp [s10];rfl) ?_
   refine go1 (v := .bool (decide (kind=9))) rfl (by simp) (kP ?_)
   simp only [kF]
   refine rest _ (by simp [s2]) (by simp [s3]) (by simp [s10]) (by simp [k8]) (fun _ _=>True) _ (fun σ w'=>rfl) fun σ' hfr hn h10=>?_
   simp only [kR,kF]
   exact fin σ' (by rw [hfr 2 (by omega)];simp [s2]) (by rw [hfr 3 (by omega)];simp [s3]) hn h10
 intro σ k2 k3 k10 k36 N Q hret hnorm
 have fret :∀(σ' : Sl) (w' : World) (b : Bool),σ' 4=.bool b→b=(FD.mk kind frm to null tag dfl of sub).isUs (.mk n s xn l u)→Mod [] w w'→wpC P .ret Q σ' w' := by
  intro σ' w' b h4 hb hm'
  show Q .ret σ' w'
  rw [hret]
  exact kJW (v := .bool b) h4 ⟨by rw [hb],hm'⟩
 by_cases h89 : kind=8∨kind=9
 ·have he : (FD.mk kind frm to null tag dfl of sub).isUs (.mk n s xn l u)=if null≥0 then xn else decide (s.length=0) := by
   rw [FD.isUs,if_pos h89];rfl
  rw [he] at fret
  rw [kI (by simp [k36,h89]),wpC_seq,wpC_seq,kD]
  refine go1 (v := .pointer (some ⟨w.heap.size,3,none⟩)) rfl (by simp [k2]) ?_
  refine go1 (v := .int .i64 null) rfl (by simp [c1]) ?_
  refine go1 (v := .bool (decide (null≥0))) rfl (by simp) (kP ?_)
  simp only [kF]
  by_cases hn : null≥0
  ·rw [kI (by simp [hn]),wpC_seq,kD]
   refine go1 (v := .pointer (some ⟨w1.heap.size,2,none⟩)) rfl (by simp [k3]) ?_
   refine go1 (v := .bool xn) rfl (by simp [c2]) ?_
   refine go1 (v := .bool xn) rfl (by simp) (kP ?_)
   simp only [kF]
   repeat first|refine zP ?_|refine j3 ?_
   exact fret _ _ xn (by simp) (by rw [if_pos hn]) hm02
  ·rw [kG (by simp;omega),wpC_skip]
   simp only [kF]
   obtain ⟨ib,ic,ei⟩ := a1.shape
   rw [wpC_seq,kD]
   refine go1 (v := .pointer (some ⟨w1.heap.size,1,none⟩)) rfl (by simp [k3]) ?_
   refine go1 (v := sv) rfl (by simp [c2]) ?_
   refine go1 (v := .int .i64 (s.length : Nat)) rfl (by simp [ei]) ?_
   refine go1 (v := .bool (decide (s.length=0))) rfl (by simp;rw [Bool.eq_iff_iff];simp) ?_
   refine go1 (v := .bool (decide (s.length=0))) rfl (by simp) (kP ?_)
   simp only [kF]
   repeat first|refine zP ?_|refine j3 ?_
   exact fret _ _ (decide (s.length=0)) (by simp only [updo,upd_same]) (by rw [if_neg hn]) hm02
 rw [kG (by simp [k36,h89]),wpC_seq,kD]
 refine go1 (v := .bool false) rfl (by simp [k10];omega) ?_
 refine go1 (v := .bool false) rfl (by simp) (kP ?_)
 simp only [kF]
 rw [kG (by simp),wpC_seq,kD]
 refine go1 (v := .bool (decide (kind=10))) rfl (by simp [k10];rfl) ?_
 refine go1 (v := .bool (decide (kind=10))) rfl (by simp) (kP ?_)
 simp only [kF]
 by_cases h10 : kind=10
 rotate_left
 ·rw [kG (by simp [h10]),wpC_skip]
  refine hnorm _ (fun j hj=>?_) h89 h10
  simp only [updo,upd]
  repeat rw [if_neg (by omega)]
 have he : (FD.mk kind frm to null tag dfl of sub).isUs (.mk n s xn l u)=(kE8 sub 0 (.mk n s xn l u)&&decide ((kU sub u).length=0)) := by
  rw [FD.isUs,if_neg h89,if_pos h10];rfl
 rw [he] at fret
 rw [kI (by simp [h10])]
 unfold ir_susual__3
 obtain ⟨sb,sc,es⟩ := hs1.shape
 rw [wpC_seq,wpC_seq,kD]
 refine go1 (v := .pointer (some ⟨w.heap.size,7,none⟩)) rfl (by simp [k2]) ?_
 refine go1 (v := fv) rfl (by simp [c1]) ?_
 refine go1 (v := .int .i64 (sub.length : Nat)) rfl (by simp [es]) ?_
 refine go1 (v := .int .i64 (0 : Nat)) rfl (by simp) (kP ?_)
 simp only [kF]
 refine rangeLoop (n := sub.length) (fun j σ w'=>σ 2=.pointer (some ⟨w.heap.size,0,none⟩)∧σ 3=.pointer (some ⟨w1.heap.size,0,none⟩)∧σ 57=fv∧σ 59=.int .i64 (j : Nat)∧σ 58=.int .i64 (sub.length : Nat)∧Mod [] w2 w' ∧∀i,i<j →∀g,sub[i]?=some g→g.isUs (TR.at (.mk n s xn l u) i)=true) (by omega) (by omega) (fun j σ w h=>⟨h.2.2.2.1,h.2.2.2.2.1⟩) ?_ ?_ ?_
 ·exact ⟨by simp [k2],by simp [k3],by simp,by simp,by simp,Mod.refl _ _,fun i hi=>by omega⟩
 ·rintro j σ4 w4 hj ⟨q2,q3,q57,q59,q58,hm4,hall⟩
  obtain ⟨g,hg⟩ :∃g,sub[j]?=some g := ⟨sub[j],by simp [hj]⟩
  obtain ⟨gcs,hcs,hrep⟩ := hs2.nth hg
  obtain ⟨a,c,ea,hjn,hcell⟩ := hs1.flat hs2.length hs2.eight hcs
  have hm04 := hm02.trans hm4
  have hcell4 : kV w4 (a.add (j*8)) 0 8=some gcs := qA hm04.below _ _ _ hcell
  rw [es] at ea
  simp only [Value.slice.injEq,true_and] at ea
  obtain ⟨ea,ec⟩ := ea
  subst ea
  unfold ir_susual__2
  rw [wpC_seq,kD]
  refine go1 (v := .int .i64 (j : Nat)) rfl (by simp [q59]) ?_
  refine go1 (v := .pointer (some (a.add (j*8)))) rfl (by simp [q57,es,q59,hj]) ?_
  refine go1 (v := .agg gcs.toArray) rfl (by simp [hcell4]) ?_
  refine jI fun w5 hb5 hm5=>?_
  refine go1 (v := .int .i64 (j : Nat)) rfl (by simp) ?_
  refine goSt (b := w4.heap.size) (v := .agg gcs.toArray) (by simp) (by simp) hb5 (by simpa using hrep.eight) rfl (by simpa using hrep.oneCell) fun w6 hb6 hm6=>kP ?_
  simp only [kF]
  have hb6 : Blk w6 w4.heap.size gcs := by simpa using hb6
  have hm46 : Mod [] w4 w6 := Mod.drop (b := w4.heap.size) (S := []) (hm5.nil.trans hm6) (Nat.le_refl _)
  have hm26 := hm4.trans hm46
  rw [wpC_seq]
  show wpD P _ [] _ w6.drew _
  have hmd : Mod [] w6 w6.drew := Mod.drew _ _
  have hm2d := hm26.trans hmd
  have hm0d := hm02.trans hm2d
  have hl6 := kJ (hb6.mod hmd (by simp)).cells hrep.eight
  have hl2 := kJ (hb2.mod hm2d (by simp)).cells h5
  refine zM (fun i v w'=>match i with|3 =>∃cs,v=.agg cs.toArray∧RepT anyB w' (TR.at (.mk n s xn l u) j) cs|4=>v=.bool (g.isUs (TR.at (.mk n s xn l u) j))|_=>True) (by
   intro i v w w' h hm
   split at h
   ·obtain ⟨cs,e1,e2⟩ := h;exact ⟨cs,e1,e2.keep hm⟩
   ·exact h
   ·trivial) ?_
  refine bo1 (v := .agg gcs.toArray) rfl (by simp [hl6]) ?_
  refine bo1 (v := .agg [.int .i64 n,sv,.bool xn,lv,uv].toArray) rfl (by simp [q3,hl2]) ?_
  refine bo1 (v := .int .i64 (j : Nat)) rfl (by simp) ?_
  refine jB (vs := [.agg [.int .i64 n,sv,.bool xn,lv,uv].toArray,.int .i64 (j : Nat)]) rfl (by simp) (fun w' hm' _=>(kAP hm hat (hrt0.keep (hm0d.trans hm'))).mono ?_) ?_
  ·rintro e w'' ⟨cs,rfl,hr,hm2⟩;exact ⟨_,rfl,hm2,cs,rfl,hr⟩
  rintro v3 ⟨_,cs3,rfl,-⟩
  refine jB (vs := [.agg gcs.toArray,.agg cs3.toArray]) rfl (by simp) (fun w' hm' hkn=>?_) ?_
  ·have hk6 := qY (j := 3) (t := 67) hkn (by simp) rfl rfl rfl rfl
   obtain ⟨cs,e1,e2⟩ :∃cs,Value.agg cs3.toArray=.agg cs.toArray∧RepT anyB w' (TR.at (.mk n s xn l u) j) cs := by simpa using hk6
   rw [e1]
   refine (hU g (List.mem_of_getElem? hg) w' gcs _ cs (hrep.keep (hm0d.trans hm')) e2).mono ?_
   rintro e w'' ⟨rfl,hmm⟩;exact ⟨_,rfl,hmm,rfl⟩
  rintro v4 ⟨_,e4⟩
  have e4 : v4=.bool (g.isUs (TR.at (.mk n s xn l u) j)) := e4
  subst e4
  refine bo1 (v := .bool (!g.isUs (TR.at (.mk n s xn l u) j))) rfl (by simp) ?_
  intro w' hm' hkn
  refine kP ?_
  simp only [kF]
  have hm2w := hm2d.trans hm'
  cases hus : g.isUs (TR.at (.mk n s xn l u) j) with
  | false =>
    rw [kI (by simp),wpC_seq,kD]
    refine go1 (v := .bool false) rfl rfl (kP ?_)
    simp only [kF]
    repeat first|refine kQR ?_|refine zP ?_|refine j3 ?_
    refine fret _ _ false (by simp) ?_ (hm02.trans hm2w)
    symm
    rw [Bool.and_eq_false_iff]
    left
    cases hL : kE8 sub 0 (.mk n s xn l u) with
    | false=>rfl
    | true =>
      have := kI3 hL hg
      rw [Nat.zero_add,hus] at this
      cases this
  | true =>
    rw [kG (by simp),wpC_skip]
    simp only [rngP]
    refine ⟨by simp [q59],by simp [q2],by simp [q3],by simp [q57],by simp,by simp [q58],hm2w,fun i hi g' hg'=>?_⟩
    rcases Nat.lt_succ_iff_lt_or_eq.1 hi with hi|rfl
    ·exact hall i hi g' hg'
    ·rw [hg] at hg';cases hg';exact hus
 ·rintro σ4 w4 ⟨q2,q3,q57,q59,q58,hm4,hall⟩
  simp only [kF]
  have hL : kE8 sub 0 (.mk n s xn l u)=true := kI4 fun j g hg=>by
   rw [Nat.zero_add]
   exact hall j (List.getElem?_eq_some_iff.1 hg).1 g hg
  rw [hL,Bool.true_and] at fret
  have hm04 := hm02.trans hm4
  have c14 := fun k=>(hb1.mod hm4 (by simp)).cell k
  have c24 := fun k=>(hb2.mod hm4 (by simp)).cell k
  rw [wpC_seq,kD]
  refine go1 (v := .pointer (some ⟨w.heap.size,7,none⟩)) rfl (by simp [q2]) ?_
  refine go1 (v := fv) rfl (by simp [c14]) ?_
  refine go1 (v := .pointer (some ⟨w1.heap.size,4,none⟩)) rfl (by simp [q3]) ?_
  refine go1 (v := uv) rfl (by simp [c24]) ?_
  refine qF rfl (vs := [fv,uv]) (by simp) (vS hm hun hkn (hs1.keep hm04) (hs2.keep hm04) (by omega) (fun f hf=>FD.usK_tag (kLC hsubs f hf)) (a4.keep hm04) (a5.keep hm04)) ?_
  rintro e w5 ⟨lv5,ucs,rfl,hl5,hu5,hm5⟩
  obtain ⟨ib,ic,ei⟩ := hl5.shape
  refine ⟨_,rfl,?_⟩
  refine go1 (v := .int .i64 ((kU sub u).length : Nat)) rfl (by simp [ei]) ?_
  refine go1 (v := .bool (decide ((kU sub u).length=0))) rfl (by simp;rw [Bool.eq_iff_iff];simp) ?_
  refine go1 (v := .bool (decide ((kU sub u).length=0))) rfl (by simp) (kP ?_)
  simp only [kF]
  exact fret _ _ (decide ((kU sub u).length=0)) (by simp only [updo,upd_same]) rfl (hm04.trans hm5)
mutual
/-- All fields of such kinds. -/
theorem FD.usKC (hm:P.follows .mixedOrders=true) (h:kH P (F uR)=some (ir_susual_ F)) (hat:kH P (F sAt)=some (ir_sAt F)) (hsm:kH P (F vW)=some (ir_sSame F)) (hfx:kH P (F yU)=some (ir_sFixed F)) (hwd:kH P (F kBH)=some (ir_sWidth F))
  (hun:kH P (F yA)=some (ir_sUnknown F)) (hkn:kH P (F vR)=some (ir_sKnown F)) :∀f:FD,f.usK=true→UsC P F f
 | .mk kind frm to null tag dfl of sub,hk=>by
   have hk':=hk
   simp only [FD.usK,Bool.and_eq_true] at hk'
   exact us_call hm h hat hsm hfx hwd hun hkn hk (FD.usKsC hm h hat hsm hfx hwd hun hkn sub hk'.2)
theorem FD.usKsC (hm:P.follows .mixedOrders=true) (h:kH P (F uR)=some (ir_susual_ F)) (hat:kH P (F sAt)=some (ir_sAt F)) (hsm:kH P (F vW)=some (ir_sSame F)) (hfx:kH P (F yU)=some (ir_sFixed F)) (hwd:kH P (F kBH)=some (ir_sWidth F))
  (hun:kH P (F yA)=some (ir_sUnknown F)) (hkn:kH P (F vR)=some (ir_sKnown F)) :∀l:List FD,usKL l=true →∀f∈l,UsC P F f
 | [],_,f,hf=>by simp at hf
 | a::l,hk,f,hf=>by
   simp only [usKL,Bool.and_eq_true] at hk
   rcases List.mem_cons.1 hf with e|hf
   ·rw [e];exact FD.usKC hm h hat hsm hfx hwd hun hkn a hk.1
   ·exact FD.usKsC hm h hat hsm hfx hwd hun hkn l hk.2 f hf
end
end
end Go.Msk
