/- A small language of resolved operations, and what the generic and the generated functions do in it (part 21). -/
import Derived.Test.YtfoljfjkifiboaaGreatDoorFt
import Derived.Shelf.GgSortFunc.Whole
import Derived.Shelf.GgSortFunc.Tiny
namespace Go.Msk
open Go.RowKit
set_option maxRecDepth 100000
def Fl.okB (F:Nat→Nat) (has:Nat→Bool):Fl→Bool
 | .nil=>true
 | .prm p rest=>fOk p&&(!p.eqB .uuid||has kGE)&&rest.okB F has
 | .lsp p bytes rest=>fOk p&&!p.eqB .uuid&&Nat.ble bytes 32768&&rest.okB F has
 | .lss _ bytes body rest=>Nat.ble bytes 32768&&body.z.all (fun v=>v.oneCell')&&body.okB F has&&rest.okB F has
 | .tags set=>set==F tSet&&has tSet
def Fl.Mks (P:Program) (F:Nat→Nat):Fl→Prop
 | .nil=>True
 | .prm _ rest=>rest.Mks P F
 | .lsp _ _ rest=>rest.Mks P F
 | .lss f _ body rest=>kH P f=some (body.genMake (F iAt) (F kGE))∧body.Mks P F∧rest.Mks P F
 | .tags _=>True
structure kQZ where
 mx:FuncId
 newp:FuncId
 maxv:FuncId
 dfl:FuncId
 setv:FuncId
 fill:FuncId
 ap:FuncId
 make:FuncId
 sm:FuncId
structure kQ0 (P:Program) (F:Nat→Nat) (has:Nat→Bool) (M:kQZ) (fl:Fl) (A:ATop) (fx:List FX) (flex:Int) (most:Nat):Prop where
 mx:kH P M.mx=some (uJ M.newp M.maxv)
 maxv:kH P M.maxv=some (kCZ most)
 newp:kH P M.newp=some (kBV (.int .i16 0::fl.z) M.dfl)
 dfl :∃l,kH P M.dfl=some (kPH l)∧dfOk l (fl.z.length+1)
 setv:kH P M.setv=some kC0
 fill:kH P M.fill=some (fl.genTop (F iAt) (F kGE))
 ap:kH P M.ap=some A.gen
 make:kH P M.make=some (kP9 (.int .i16 0::fl.z) M.setv M.fill M.ap)
 sm:kH P M.sm=some (FX.kFT fx flex)
 fxs:FX.OkL P fx
 cnt:Nat.blt fx.length 1000=true
 okF:fl.okB F has=true
 mks:fl.Mks P F
 one:fl.z.all (fun v=>v.oneCell')=true
 okA:(A.ap.okB F has A.flex.isSome false&&(A.flex.isNone||A.ap.okB F has A.flex.isSome true))=true
 agree:mkOk fl A ⟨FX.fds fx,flex⟩ most=true
 most:most<32768
section
variable {P:Program} {F:Nat→Nat} {has:Nat→Bool} {M:kQZ} {fl:Fl} {A:ATop} {fx:List FX} {flex:Int} {most:Nat}
theorem kQ0.plain (h:kQ0 P F has M fl A fx flex most):FD.zN (FX.fds fx)=true:=by
 have:=h.agree;simp only [mkOk,Bool.and_eq_true] at this;exact this.1.1
end
def FD.kE4 (f:FD):Bool:=decide (f.tag<2147483648)&&decide (f.sub.length<1000)&&FD.zN f.sub
section
variable {P:Program} {F:Nat→Nat}
theorem FD.fieldF (L:SLib P F) (ver:Int) (flex:Bool) {f:FD} (h:f.kE4=true):kCK P F ver flex f:=by
 obtain ⟨kind,frm,to,null,tag,dfl,of,sub⟩:=f
 simp only [FD.kE4,FD.sub,Bool.and_eq_true,decide_eq_true_eq] at h
 have hp:kL3 P F ver flex sub:=kJ5 L ver flex h.2 (of_decide_eq_true h.1.2)
 exact kFP L.mixed L.field L.null L.things L.counted L.uvarint L.fixed (fun k=>kFO L.mixed L.value L.whole L.counted L.uvarint L.fixed L.width fun _=>hp) hp
attribute [local simp] gOk updo upd ev RK.val? kL kM Addr.kK qE Value.cells undef
def kBK (m:MD) (ver:Int) (t:TR):List UInt8:=kC6 ver (m.qZ ver) m.fs t
theorem kKN (hm:P.follows .mixedOrders=true) (h:kH P (F kHU)=some (ir_sWrite F)) {m:MD} {ver:Int} (hp:kON P F ver (m.qZ ver) m.fs) {w:World} {ms:List Value} {t:TR} {ts:List Value} (hms:RepM anyB w m ms) (ht:RepT anyB w t ts) (hk:t.kok) (hlen:(kBK m ver t).length≤lim) :
  Calls P (F kHU) [.agg ms.toArray,.int .i64 ver,.agg ts.toArray].toArray w (uY w (kBK m ver t)):=by
 cases hms with
 | @mk fs flex v css h1 h2 =>
 have h5:=ht.five
 unfold ir_sWrite at h
 refine kT h hm (by simp) ?_
 clear h
 rw [wpC_seq,kD]
 refine wB (v:=.agg #[v,.int .i64 flex]) (by simp) fun w1 hb1 hm1=>?_
 refine wB (v:=.agg ts.toArray) (by simp) fun w2 hb2 hm2=>?_
 have hb1:Blk w2 w.heap.size [v,.int .i64 flex]:=Blk.mod (by simpa using hb1) hm2 (by simp)
 have hb2:Blk w2 w1.heap.size ts:=by simpa using hb2
 have hm02:=hm1.trans hm2
 have c1:=fun k=>hb1.cell k
 refine go1 rfl rfl (kE ?_)
 rw [wpC_seq,kD]
 refine go1 (v:=.pointer (some ⟨w.heap.size,0,none⟩)) rfl (by simp) ?_
 refine go1 (v:=v) rfl (by simp [c1]) ?_
 refine go1 (v:=.int .i64 ver) rfl (by simp) ?_
 refine go1 (v:=.pointer (some ⟨w.heap.size,1,none⟩)) rfl (by simp) ?_
 refine go1 (v:=.int .i64 flex) rfl (by simp [c1]) ?_
 refine go1 (v:=.bool (decide (flex≥0))) rfl (by simp) ?_
 refine go1 (v:=.bool (decide (flex≥0))) rfl (by simp) ?_
 have fin :∀σ:Sl,σ 5=.pointer (some ⟨w1.heap.size,0,none⟩)→σ 8=v→σ 9=.int .i64 ver→σ 18=.bool (MD.qZ ⟨fs,flex⟩ ver)→wpR P [⟨(some (19)),.ldn (.tmp 5) 5,none⟩,
   ⟨(some (20)),.call (F kGF) [.tmp 8,.tmp 9,.tmp 18,.tmp 19],none⟩,
   ⟨(some (6)),.mv (.tmp 20),none⟩] σ w2 (kF (wpC P .ret (postC [.tmp 6] (uY w (kBK ⟨fs,flex⟩ ver t)))) (postC [.tmp 6] (uY w (kBK ⟨fs,flex⟩ ver t))) .normal):=by
  intro σ k5 k8 k9 k18
  refine go1 (v:=.agg ts.toArray) rfl (by simp [k5,kJ hb2.cells h5]) ?_
  refine qF rfl (vs:=[v,.int .i64 ver,.bool (MD.qZ ⟨fs,flex⟩ ver),.agg ts.toArray]) (by simp [k8,k9,k18]) (hp w2 v css t ts (h1.keep hm02) (h2.keep hm02) (ht.keep hm02) hk hlen) ?_
  rintro e w3 ⟨v3,rfl,hd,hm3⟩
  exact ⟨v3,rfl,go1 (v:=v3) rfl (by simp) (kE (ret1 (v:=v3) (by simp) ⟨v3,rfl,hd.low hm02.size,hm02.trans hm3⟩))⟩
 by_cases e1:flex≥0
 ·refine go1 (v:=.int .i64 ver) (by simp [e1]) (by simp) ?_
  refine go1 (v:=.pointer (some ⟨w.heap.size,1,none⟩)) (by simp [e1]) (by simp) ?_
  refine go1 (v:=.int .i64 flex) (by simp [e1]) (by simp [c1]) ?_
  refine go1 (v:=.bool (decide (ver≥flex))) (by simp [e1]) (by simp) ?_
  refine go1 (v:=.bool (decide (ver≥flex))) rfl (by simp [e1]) ?_
  exact fin _ (by simp) (by simp) (by simp) (by simp [MD.qZ,e1]<;>rfl)
 ·iterate 4 (refine go0 (by simp [e1]) ?_)
  refine go1 (v:=.bool false) rfl (by simp [e1]) ?_
  exact fin _ (by simp) (by simp) (by simp) (by simp [MD.qZ,e1])
end
def dfL2:List (Nat×Value)→Nat→List IC
 | [],_=>[]
 | (off,v)::r,t=>.blk [⟨some t,.mv (.tmp 2),none⟩,⟨some (t+1),.nilc (.tmp t),none⟩,⟨some (t+2),.fad (.tmp (t+1)) off,none⟩,⟨none,.st (.tmp (t+2)) 1 (.const v),none⟩]::dfL2 r (t+3)
def kQ1 (off:Nat) (l:List (Nat×Value)):IC×List RV×Nat :=
 (seqs (.blk [⟨some 3,.mv (.tmp 0),none⟩,⟨some 4,.nilc (.tmp 3),none⟩,⟨some 5,.fad (.tmp 4) off,none⟩,⟨some 2,.mv (.tmp 5),none⟩]::.blk [⟨some 6,.mv (.tmp 2),none⟩]::dfL2 l 7),[],7+3*l.length)
section
variable {P:Program}
theorem kOS {B:Nat} {pre post:List Value} :∀(l:List (Nat×Value)) (t:Nat) (z:List Value) (σ:Sl) (w:World) (Q:Exit→Sl→World→Prop),3≤t→dfOk l z.length→σ 2=.pointer (some ⟨B,pre.length,none⟩) →
  Blk w B (pre++(z++post))→(∀σ' w',Mod [B] w w'→Blk w' B (pre++(kGO l z++post))→Q .normal σ' w')→wpL P (dfL2 l t) Q σ w
 | [],t,z,σ,w,Q,ht,hok,h0,hb,hQ=>hQ σ w (Mod.refl _ _) hb
 | (off,v)::r,t,z,σ,w,Q,ht,hok,h0,hb,hQ=>by
   obtain ⟨ho,hv,h1⟩:=hok (off,v) List.mem_cons_self
   simp only at ho hv h1
   simp only [dfL2,wpL,wpC,wpR,RI.wp,gOk,if_true,RK.run,ev,updo]
   simp only [upd,if_true,h0,Addr.kK,hv]
   have hput:Mod [B] w (putCells w ⟨B,pre.length+off,none⟩ 0 [v]):=Mod.put (by simp)
   refine ⟨rfl,qL hb (by simp;omega) (by simpa using h1),?_⟩
   have hp:=hb.put (o:=pre.length+off) (vs:=[v]) (by simp;omega)
   rw [kEJ _ _ _ _ _ ho] at hp
   simp only [kF]
   refine kOS r (t+3) (z.set off v) _ _ Q (by omega) (fun p hp=>by rw [List.length_set];exact hok p (List.mem_cons_of_mem _ hp)) ?_ (by simpa using hp) fun σ' w' hm hb'=>hQ σ' w' (hput.trans hm) hb'
   simp only [upd,show (2:Nat)≠t by omega,show (2:Nat)≠t+1 by omega,show (2:Nat)≠t+2 by omega,if_false,h0]
theorem kLD (hm:P.follows .mixedOrders=true) {f:FuncId} {off:Nat} {l:List (Nat×Value)} (h:kH P f=some (kQ1 off l)) {z1 z z2:List Value} (ho:z1.length=off) (hok:dfOk l z.length):DfC P f (z1++(z++z2)) (z1++(kGO l z++z2)):=by
 intro w B pre post hb
 unfold kQ1 at h
 refine kT h hm (by simp;omega) ?_
 rw [yB]
 simp only [wpL]
 rw [kD]
 refine go1 (v:=.pointer (some ⟨B,pre.length,none⟩)) rfl (by simp [RK.val?,ev,qE]) ?_
 refine go1 (v:=.pointer (some ⟨B,pre.length,none⟩)) rfl (by simp [RK.val?,ev,updo,upd]) ?_
 refine go1 (v:=.pointer (some ⟨B,pre.length+off,none⟩)) rfl (by simp [RK.val?,ev,updo,upd,Addr.kK]) ?_
 refine go1 (v:=.pointer (some ⟨B,pre.length+off,none⟩)) rfl (by simp [RK.val?,ev,updo,upd]) (kE ?_)
 try simp only [kF]
 rw [kD]
 refine go1 (v:=.pointer (some ⟨B,pre.length+off,none⟩)) rfl (by simp [RK.val?,ev,updo,upd]) (kP ?_)
 simp only [kF]
 refine kOS (B:=B) (pre:=pre++z1) (post:=z2++post) l 7 z _ w _ (by omega) hok (by simp [updo,upd,ho]) (by simpa [List.append_assoc] using hb) fun σ' w' hm' hb'=>?_
 simp only [postC,rvals,List.mapM_nil,Option.pure_def,tup]
 exact ⟨trivial,by simpa [List.append_assoc] using hb',hm'⟩
end
def zU.okB (F:Nat→Nat) (has:Nat→Bool) (T:zU):Bool :=
 (!(T.sc.lists||T.body.lists)||(T.ok==F rOk&&has rOk))&&(T.cpl==F jX&&has jX)&&(T.uvr==F qB&&hasAll has [qB,qH])&&(T.span==F zF&&has zF)&&(T.set==F tSet&&has tSet) &&
 T.sc.okB F has false false&&T.sc.okB F has false true&&T.body.okB F has false false&&T.body.okB F has false true
def Sc.app1:Sc→Sc→Sc
 | .nil,r=>r
 | .prm a b c d e rest,r=>.prm a b c d e (rest.app1 r)
 | s,_=>s
theorem Sc.rv0_ty {ver:Int} {x:Bool} {r:Sc} {ls:List GV} {t:TR} :∀(sc:Sc) (tl:Tl) (fds:List FD) (i:Nat),sc.rv0B ver fds=true→fit (sc.app1 r) tl=true→(∀tl',fit r tl'=true→tl'.ty ls)→tl.ty (sc.vals ver x fds i t++ls):=by
 intro sc
 induction sc with
 | nil=>intro tl fds i _ hf hls;exact hls tl hf
 | prm vc init rr p d rest ih =>
   intro tl fds i h hf hls
   cases fds with
   | nil=>simp [Sc.rv0B] at h
   | cons f fs =>
     simp only [Sc.rv0B,Bool.and_eq_true] at h
     have key:fitD p d=true→p.ty (if f.hasV ver=true then valG p (f.jR ver (t.at i)) (t.at i) else d.gv):=fun hd=>by
      split
      ·rename_i hh
       have:=h.1.1.2
       rw [hh] at this
       exact kG8 (by simpa using this)
      ·exact kC5 hd
     cases tl<;>simp only [Sc.app1,fit,Bool.false_eq_true,Bool.and_eq_true] at hf
     ·exact ⟨_,_,rfl,kEY hf.1.1 (key hf.1.2),ih _ fs (i+1) h.2 hf.2 hls⟩
     ·have e:p=.uuid:=by simpa using hf.1.1
      subst e
      obtain ⟨l,h1,h2⟩:=key hf.1.2
      exact ⟨l,_,by simp only [Sc.vals,List.cons_append];rw [h1],h2,ih _ fs (i+1) h.2 hf.2 hls⟩
 | _=>intro tl fds i h;simp [Sc.rv0B] at h
structure KtOk (P:Program) (F:Nat→Nat) (has:Nat→Bool) (M:kLA) (T:zU) (tl:Tl) (fx:List FX) (pf:List FD) (f:FD) (flex:Int) (z:List Value) (most:Nat):Prop where
 mx:kH P M.mx=some (uJ M.newp M.maxv)
 maxv:kH P M.maxv=some (kCZ most)
 newp:kH P M.newp=some (kBV z T.dfl)
 setv:kH P M.setv=some kC0
 rf:kH P M.rf=some (kII M.rd false)
 rd:kH P M.rd=some T.gen
 tell:kH P M.tell=some (tl.code 1)
 door:kH P M.door=some (kDV M.newp M.setv M.rf M.tell)
 sm:kH P M.sm=some (FX.kFT fx flex)
 fxs:FX.OkL P fx
 fds:FX.fds fx=pf++[f]
 cnt:Nat.blt fx.length 1000=true
 dfl:DfC P T.dfl z (.int .i16 0::T.dcs) ∧∀ver,DfC P T.dfl (.int .i16 ver::T.dcs) (.int .i16 ver::T.dcs)
 sdfl:DfC P T.sdfl T.body.dcs.flatten T.body.dcs.flatten
 dfs:kCH P T.sc.dfs∧kCH P T.body.dfs
 okT:T.okB F has=true
 okL:tl.okB F has=true
 subs:uZ P tl.subs
 cbs:kEZ P tl.cbs
 fits:fit (T.sc.app1 (.sub .all T.sdfl T.body (.tags T.set))) tl=true
 small:(T.sc.jJ&&T.body.jJ)=true
 len:T.sc.len+T.body.len≤900
 tlen:tl.len≤1000
 agree:ktOk T pf f flex most=true
 most:most<32768
section
variable {P:Program} {F:Nat→Nat} {has:Nat→Bool}
theorem zU.kH7 (L:Lib P F has) {T:zU} (h:T.okB F has=true) (hd:kCH P T.sc.dfs∧kCH P T.body.dfs) (hdfl :∀ver,DfC P T.dfl (.int .i16 ver::T.dcs) (.int .i16 ver::T.dcs)) (hs:DfC P T.sdfl T.body.dcs.flatten T.body.dcs.flatten):T.Ok P jM (F gErr) false:=by
 unfold zU.okB at h
 simp only [Bool.and_eq_true,beq_iff_eq,Bool.or_eq_true,Bool.not_eq_true',Bool.or_eq_false_iff] at h
 obtain ⟨⟨⟨⟨⟨⟨⟨⟨h1,h2⟩,h3⟩,h4⟩,h5⟩,s1⟩,s2⟩,b1⟩,b2⟩:=h
 have hu:=uE h3.2
 refine ⟨fun hl=>?_,fun hl=>?_,by rw [h2.1];exact cpl_std L h2.2,kH6,hdfl,hs,fun x=>?_,fun x=>?_,?_,?_,?_⟩
 ·have:=h1.resolve_left (fun a=>by rw [a.1] at hl;cases hl)
  rw [this.1];exact kQP L this.2
 ·have:=h1.resolve_left (fun a=>by rw [a.2] at hl;cases hl)
  rw [this.1];exact kQP L this.2
 ·refine Sc.kH7 L _ ?_ hd.1
  cases x<;>assumption
 ·refine Sc.kH7 L _ ?_ hd.2
  cases x<;>assumption
 ·rw [h3.1];exact zO L.mixed (L.qB (hu _ (by simp))) (L.qH (hu _ (by simp)))
 ·rw [h4.1];exact fun S w rb s l hr=>zV L.mixed (L.zF h4.2) hr l
 ·rw [h5.1];exact set_of L.mixed (L.tSet h5.2)
theorem kMF {f:FD} (h:f.plain=true):f.kE4=true:=by
 obtain ⟨kind,frm,to,null,tag,dfl,of,sub⟩:=f
 simp only [FD.plain,Bool.and_eq_true,decide_eq_true_eq] at h
 simp only [FD.kE4,FD.tag,FD.sub,Bool.and_eq_true,decide_eq_true_eq]
 exact ⟨⟨decide_eq_true (show tag<2147483648 by omega),decide_eq_true h.2.1⟩,h.2.2⟩
theorem FD.toF (L:TLib P F) (ver:Int) (flex:Bool) {f:FD} (h:f.kE4=true):kBI P F ver flex f:=by
 obtain ⟨kind,frm,to,null,tag,dfl,of,sub⟩:=f
 simp only [FD.kE4,FD.sub,Bool.and_eq_true,decide_eq_true_eq] at h
 have hp:kN5 P F ver flex sub:=kKE L ver flex h.2 (of_decide_eq_true h.1.2)
 refine kCO L.sl.mixed L.told1 L.sl.null L.sl.whole L.same L.sl.things L.number hp fun _ ho=>?_
 exact kCO L.sl.mixed L.told1 L.sl.null L.sl.whole L.same L.sl.things L.number hp fun ho' _=>absurd ho' ho
theorem usOneF (L:TLib P F) {f:FD} (h:f.kE4=true):kA0 P F [f] :=
 kBE L.sl.mixed L.usual L.sl.at_ L.same L.number (by simp) fun g hg=>by
  rcases List.mem_singleton.1 hg with rfl
  obtain ⟨kind,frm,to,null,tag,dfl,of,sub⟩:=g
  simp only [FD.kE4,FD.sub,Bool.and_eq_true,decide_eq_true_eq] at h
  exact kBE L.sl.mixed L.usual L.sl.at_ L.same L.number (of_decide_eq_true h.1.2) (usCL L sub h.2)
variable {M:kLA} {T:zU} {tl:Tl} {fx:List FX} {pf:List FD} {f:FD} {flex:Int} {z:List Value} {most:Nat}
theorem ktOk.flats (h:ktOk T pf f flex most=true):(∀g∈pf++[f],g.kE4=true)∧(∀g∈pf++[f],0≤g.tag→g.usK=true)∧FD.zN pf=true∧f.tag=0:=by
 obtain ⟨a1,a2,a3,a4,a5,a6,a7,-⟩:=ktOk.parts h (ver:=0) (by omega) (by omega)
 refine ⟨fun g hg=>?_,fun g hg ht=>?_,a1,a2⟩
 ·rcases List.mem_append.1 hg with hg|hg
  ·exact kMF (FD.yE a1 g hg)
  ·simp only [List.mem_singleton] at hg
   subst hg
   simp only [FD.kE4,Bool.and_eq_true,decide_eq_true_eq]
   exact ⟨⟨by omega,a5⟩,a6⟩
 ·rcases List.mem_append.1 hg with hg|hg
  ·have:=FD.plain.tag (FD.yE a1 g hg);omega
  ·simp only [List.mem_singleton] at hg
   subst hg;exact a7
theorem kt_ty (h:ktOk T pf f flex most=true) (hf:fit (T.sc.app1 (.sub .all T.sdfl T.body (.tags T.set))) tl=true) {ver:Int} (h0:0≤ver) (h1:ver≤most) {t:TR} (hk:t.kok):tl.ty (ktG T pf f flex ver t):=by
 obtain ⟨a1,a2,a3,a4,a5,a6,a7,a8,a9,a10,a11,b1,b2,b3⟩:=ktOk.parts h h0 h1
 refine Sc.rv0_ty T.sc tl pf 0 b2 hf fun tl' hf'=>?_
 cases tl'<;>simp only [fit,Bool.false_eq_true,Bool.and_eq_true] at hf'
 rename_i ff n b r'
 have key:b.ty ((ktO T pf f flex ver t).getD T.body.dgv):=by
  unfold ktO
  split
  ·rename_i hx
   simp only [Bool.and_eq_true,decide_eq_true_eq] at hx
   exact vals_ty _ _ _ _ _ (b3 hx.1).1 hf'.1.1 (hk.at pf.length)
  ·exact kN0 T.body b hf'.1.1
 refine ⟨_,_,rfl,key,?_,rfl⟩
 have hf2:=hf'.2
 cases r'<;>simp only [fit,Bool.false_eq_true] at hf2
 have hul:=kDX (pf++[f]) t.u
 refine ⟨_,rfl,?_⟩
 unfold ktM
 split
 ·refine ⟨by simp [zT];omega,fun p hp=>?_⟩
  simp only [zT,List.mem_map] at hp
  obtain ⟨q,-,rfl⟩:=hp
  have:=jC q.2
  show (kN q.2).length≤_
  omega
 ·simp
theorem kQF (h:ktOk T pf f flex most=true) (hs:(T.sc.jJ&&T.body.jJ)=true) (hl:T.sc.len+T.body.len≤900) {ver:Int} (h0:0≤ver) (h1:ver≤most) {t:TR} (hk:t.kok):(GV.rcd (ktG T pf f flex ver t)).sm:=by
 obtain ⟨a1,a2,a3,a4,a5,a6,a7,a8,a9,a10,a11,b1,b2,b3⟩:=ktOk.parts h h0 h1
 simp only [Bool.and_eq_true] at hs
 refine vI (by simp only [ktG,List.length_append,Sc.rv0_len T.sc pf 0 t b2,List.length_cons,List.length_nil];omega) fun g hg=>?_
 simp only [ktG,List.mem_append,List.mem_cons,List.not_mem_nil,or_false] at hg
 rcases hg with hg|rfl|rfl
 ·exact Sc.rv0_sm T.sc pf 0 t b2 hs.1 g hg
 ·unfold ktO
  split
  ·rename_i hx
   simp only [Bool.and_eq_true,decide_eq_true_eq] at hx
   exact vI (by rw [Option.getD_some,kHA _ _ _ _ (b3 hx.1).1];omega) (vals_sm _ _ _ _ (b3 hx.1).1 hs.2 (hk.at pf.length))
  ·exact vI (by rw [Option.getD_none,Sc.kJ9];omega) (Sc.kIU T.body hs.2)
 ·have hul:=kDX (pf++[f]) t.u
  refine ⟨by simp [GV.told,TR.small,TR.xN,TR.zero],fun m e=>?_⟩
  simp only [GV.tag.injEq] at e
  subst e
  unfold ktM
  split
  ·refine ⟨by simp [zT];omega,fun p hp=>?_⟩
   simp only [zT,List.mem_map] at hp
   obtain ⟨q,-,rfl⟩:=hp
   have:=jC q.2
   show (kN q.2).length≤_
   omega
  ·simp
def ktR (T:zU) (pf:List FD) (f:FD) (flex ver:Int) (t:TR):TR:=(GV.rcd (ktG T pf f flex ver t)).told
theorem KtOk.doorOf (L:Lib P F has) (LI:LibI P F has) (h:KtOk P F has M T tl fx pf f flex z most) {Te:TypeId} {ve:Value}:kOC P M.door (kBK ⟨pf++[f],flex⟩) most (F gErr) Te ve (ktR T pf f flex):=by
 intro w ver t sv hk hlen h0 h1 hs hg
 have hl2:(kC6 ver (MD.qZ ⟨pf++[f],flex⟩ ver) (pf++[f]) t).length+1000≤lim:=hlen
 have htl:kNZ P M.tell 1 tl.ty:=Tl.call L.mixed h.tell (Tl.kH7 L.mixed LI tl h.okL h.subs h.cbs) h.tlen
 obtain ⟨hpos,hrd⟩:=kQE h.agree h0 h1 hk
 exact kKJ L.mixed h.door h.newp h.dfl.1 h.setv h.rf h.rd (zU.kH7 L h.okT h.dfs h.dfl.2 h.sdfl) htl hrd rfl (kt_ty h.agree h.fits h0 h1 hk) hs hpos (by omega) (i16_of h0 h1 h.most) hg
theorem kt_msg (L:Lib P F has) (LI:LibI P F has) (TL:TLib P F) (hus:kH P (F uR)=some (ir_susual_ F)) (h:KtOk P F has M T tl fx pf f flex z most) {g zz z2 z3:FuncId} (hf:kH P g=some (kKF zz M.mx M.sm (F kB9) (F kHU) M.door (F kCA) (F lGot) (F kHV))) (hz1:kH P zz=some (kGZ z2)) (hz2:kH P z2=some (kES z3)) (hz3:kH P z3=some kC4)
  (hv:kH P (F kB9)=some (ir_lVersion F)) (hg:kH P (F lGot)=some (ir_lGot F)) {Te:TypeId} {ve:Value} {w:World} {b:Int} (hb:0≤b∧b<256) {t:TR} {ts:List Value}
  (ht:RepT anyB w t ts) (hk:t.kok) (hn:t.nok) (hlen :∀v,(kBK ⟨pf++[f],flex⟩ v t).length+1000≤lim) (hge:GErr (F gErr) w Te ve):Calls P g [.int .u8 b,.agg ts.toArray].toArray w fun e w'=>e=.returned (.bool true)∧Mod [] w w':=by
 have hmost:(0:Int)≤most∧(most:Int)<32768:=⟨by omega,by have:=h.most;omega⟩
 have hcnt:(pf++[f]).length<1000:=by
  rw [←h.fds,FX.uL]
  exact Nat.lt_of_succ_le (Nat.le_of_ble_eq_true h.cnt)
 obtain ⟨f1,f2,f3,f4⟩:=ktOk.flats h.agree
 have ftag :∀x∈pf++[f],x.tag<2147483648:=fun x hx=>by
  have:=f1 x hx
  simp only [FD.kE4,Bool.and_eq_true,decide_eq_true_eq] at this
  exact this.1.1
 have fus :∀x∈pf++[f],0≤x.tag→UsC P F x:=fun x hx ht=>FD.usKC TL.sl.mixed hus TL.sl.at_ TL.same TL.sl.fixed TL.sl.width TL.sl.unknown TL.sl.known x (f2 x hx ht)
 have hpk :∀ver flx,kON P F ver flx (pf++[f]):=fun ver flx =>
  kMC TL.sl.mixed TL.sl.part TL.sl.has TL.sl.at_ TL.sl.uvarint TL.sl.whole TL.sl.known TL.sl.unknown (fun x hx=>FD.fieldF TL.sl ver flx (f1 x hx)) fus ftag hcnt (by rw [kHD f3 f4];omega)
 have hz:DfC P T.dfl z (.int .i16 0::T.dcs):=h.dfl.1
 have hsm :∀w,Calls P M.sm #[] w fun e w' =>∃cs,e=.returned (.agg cs.toArray)∧RepM anyB w' ⟨pf++[f],flex⟩ cs∧Mod [] w w':=fun w=>by
  have:=kP5 L.mixed h.sm h.fxs (w:=w)
  rw [h.fds] at this
  exact this
 refine kOD (wp:=kBK ⟨pf++[f],flex⟩) L.mixed hf hmost (fun w t ts ht=>kP0 L.mixed hz1 hz2 hz3 ht) (fun w=>kJY L.mixed h.mx h.newp hz h.maxv hmost) hsm (fun w n hn=>kIC L.mixed hv hn hmost)
  (fun v w ms t ts a b c d=>kKN L.mixed TL.sl.write (hpk v _) a b c d) (h.doorOf L LI) hb (fun v h0 h1=>?_) (fun v w ms hms=>kG7 TL hms) (fun v w sv css xs us h0 h1 a b c d=>?_) ht hk hlen hge
 ·exact kP7 L.mixed hg _ (kQF h.agree h.small h.len h0 h1 hk).1
 ·exact kME L.mixed TL.told TL.sl.at_ TL.sl.has TL.sl.whole TL.same TL.sl.known TL.sl.unknown hcnt ftag fus (fun x hx=>FD.toF TL v _ (f1 x hx)) (fun x hx=>usOneF TL (f1 x hx)) w sv css t xs _ us a b c d (kt_told h.agree h0 h1 hk hn)
theorem KtOk.lenK (h:KtOk P F has M T tl fx pf f flex z most) (size:Nat.ble (FD.maxL true pf+3000000000+FD.maxL true f.sub) 70368744170000=true) (sizef:Nat.ble (FD.maxL false pf) 70368744170000=true) {t:TR} (hk:t.kok) (v:Int):(kBK ⟨pf++[f],flex⟩ v t).length+1000≤lim:=by
 obtain ⟨a1,a2,a3,a4,a5,a6,a7,a8,a9,-⟩:=ktOk.parts h.agree (ver:=0) (by omega) (by omega)
 have hb:=FD.kBD v (MD.qZ ⟨pf++[f],flex⟩ v) pf 0 t a1 hk
 unfold kBK
 show (kC6 v (MD.qZ ⟨pf++[f],flex⟩ v) (pf++[f]) t).length+_≤_
 rw [kOR a1 a2,List.length_append]
 have s1:=Nat.le_of_ble_eq_true size
 have s2:=Nat.le_of_ble_eq_true sizef
 cases hf:MD.qZ ⟨pf++[f],flex⟩ v with
 | false =>
   rw [hf] at hb
   simp only [Bool.false_eq_true,if_false,List.length_nil]
   unfold lim;omega
 | true =>
   rw [hf] at hb
   simp only [if_true,List.length_append]
   have h1:=kKM (fs:=pf++[f]) (TR.kJ7 hk)
   have h2:=kDX (pf++[f]) t.u
   have e3:(y7 (kU (pf++[f]) t.u)).length≤(kU (pf++[f]) t.u).length*32777:=kG3 fun p hp=>by
    have a:=kCN (h1.2 p hp)
    have b:=jC p.2
    have c:=kCN (n:=(kN p.2).length) (by omega)
    simp only [List.length_append];omega
   have e5:(kU (pf++[f]) t.u).length*32777≤32767*32777:=Nat.mul_le_mul_right _ h2
   have he:=kQY (ver:=v) (x:=true) a3 a4 a6 (t.at pf.length)
   have q1:=FD.kBD v true f.sub 0 (t.at pf.length) a6 (hk.at pf.length)
   have q2:=kG4 (x:=true) (TR.kJ7 (hk.at pf.length))
   have q3:tagM true=1074003964:=by decide
   rw [q3] at q2 a9
   have hel:(f.enc v true (t.at pf.length)).length≤FD.maxL true f.sub+1074003964:=by rw [he,List.length_append];omega
   have e6:(xO (if f.isUs (t.at pf.length)=false then [((0:Nat),f.enc v true (t.at pf.length))] else [])).length≤10+(FD.maxL true f.sub+1074003964)∧(if f.isUs (t.at pf.length)=false then [((0:Nat),f.enc v true (t.at pf.length))] else []).length≤1:=by
    split
    ·have a:=kCN (n:=0) (by omega)
     have c:=kCN (n:=(f.enc v true (t.at pf.length)).length) (by omega)
     simp only [xO,List.flatMap_cons,List.flatMap_nil,List.append_nil,List.length_append,List.length_cons,List.length_nil]
     omega
    ·simp [xO]
   have e4:=kCN (n:=(if f.isUs (t.at pf.length)=false then [((0:Nat),f.enc v true (t.at pf.length))] else []).length+(kU (pf++[f]) t.u).length) (by omega)
   unfold lim;omega
end
end Go.Msk
namespace Go.Msk
open Go.RowKit Go.Shelf Go.Proofs
set_option maxRecDepth 100000
def ltN (x y:Nat):Bool:=decide (x<y)
theorem swo_ltN:Go.Sort.SWO ltN where
 irrefl:=fun x=>by simp [ltN]
 trans:=fun x y z=>by simp only [ltN,decide_eq_true_eq];omega
 ntrans:=fun x y z=>by simp only [ltN,decide_eq_false_iff_not];omega
theorem kDM {w:World} {B m:Nat} {cs:List Value} {dk:Array Nat} {os:Array Obj} (h:Blk w B cs) (hl:cs.length=dk.size) :
  Mod [B] w (Go.Sort.grow (Go.Sort.putRow u32v (Go.Sort.ahead w m) B 0 dk) os)∧Blk (Go.Sort.grow (Go.Sort.putRow u32v (Go.Sort.ahead w m) B 0 dk) os) B (dk.toList.map u32v):=by
 obtain ⟨T,fr,hb,hfr⟩:=h
 have hlt:B<w.heap.size:=(Array.getElem?_eq_some_iff.1 hb).1
 have hsz:(w.heap.modify B (Go.Sort.onCells (Go.Sort.putCells u32v 0 dk))).size=w.heap.size:=by simp
 have hget :∀k,k<w.heap.size→(Go.Sort.grow (Go.Sort.putRow u32v (Go.Sort.ahead w m) B 0 dk) os).heap[k]?=(w.heap.modify B (Go.Sort.onCells (Go.Sort.putCells u32v 0 dk)))[k]?:=fun k hk=>by
  show ((w.heap.modify B (Go.Sort.onCells (Go.Sort.putCells u32v 0 dk)))++os)[k]?=_
  rw [Array.getElem?_append_left (by omega)]
 refine ⟨⟨rfl,rfl,rfl,?_,fun k hk hn=>?_⟩,T,fr,?_,?_⟩
 ·show w.heap.size≤((w.heap.modify B (Go.Sort.onCells (Go.Sort.putCells u32v 0 dk)))++os).size
  simp
 ·rw [hget k hk,Array.getElem?_modify,if_neg (by simp only [List.mem_singleton] at hn;omega)]
 ·rw [hget B hlt,Array.getElem?_modify,if_pos rfl,hb]
  simp only [Option.map_some,Go.Sort.onCells,Option.some.injEq,Obj.cells.injEq,and_true]
  apply Array.ext_getElem?
  intro k
  simp only [Go.Sort.putCells,Array.getElem?_mapIdx,List.getElem?_toArray,List.getElem?_map,Array.getElem?_toList,Nat.zero_add,Nat.zero_le,true_and,Nat.sub_zero]
  by_cases hk:k<dk.size
  ·have e1:cs[k]?=some cs[k]:=List.getElem?_eq_getElem (by omega)
   have e2:dk[k]?=some dk[k]:=Array.getElem?_eq_getElem hk
   rw [e1,e2]
   simp only [Option.map_some,if_pos hk]
   rw [getElem!_pos dk k hk]
  ·rw [List.getElem?_eq_none (by omega),Array.getElem?_eq_none (by omega)]
   rfl
 ·simp only [List.length_map,Array.length_toList]
  rw [←hl];exact hfr
section
variable {P:Program} {F:Nat→Nat}
theorem kMG (hm:P.follows .mixedOrders=true) (h:kH P (F wW)=some (ir_tEach1 F)) {w:World} {B Bs n:Nat} {G:Nat→Nat} (hs:w.cell? ⟨Bs,0,none⟩=some (.slice (some ⟨B,0,none⟩) n n))
  (hc :∀t,t<n→w.cell? ⟨B,t,none⟩=some (u32v (G t))) {i j:Nat} (hi:i<n) (hj:j<n) :
  Calls P (F wW) [.int .i64 i,.int .i64 j,.pointer (some ⟨Bs,0,none⟩)].toArray w fun e w'=>e=.returned (.bool (ltN (G i) (G j)))∧w'=w.drew:=by
 unfold ir_tEach1 at h
 refine kT h hm (by simp) ?_
 have a0:qE [.int .i64 i,.int .i64 j,.pointer (some ⟨Bs,0,none⟩)] 0=.int .i64 i:=rfl
 have a1:qE [.int .i64 i,.int .i64 j,.pointer (some ⟨Bs,0,none⟩)] 1=.int .i64 j:=rfl
 have a2:qE [.int .i64 i,.int .i64 j,.pointer (some ⟨Bs,0,none⟩)] 2=.pointer (some ⟨Bs,0,none⟩):=rfl
 generalize qE [.int .i64 i,.int .i64 j,.pointer (some ⟨Bs,0,none⟩)]=σ at a0 a1 a2 ⊢
 rw [wpC_seq,kD]
 refine kC (v:=.bool false) rfl ?_
 refine kE ?_
 rw [wpC_seq]
 show wpD P _ [] _ w.drew _
 have hs':w.drew.cell? ⟨Bs,0,none⟩=some (.slice (some ⟨B,0,none⟩) n n):=hs
 have hi':w.drew.cell? ⟨B,i,none⟩=some (u32v (G i)):=hc i hi
 have hj':w.drew.cell? ⟨B,j,none⟩=some (u32v (G j)):=hc j hj
 refine xC rfl ?_
 simp only [List.map_cons,List.map_nil,List.cons_append,List.nil_append]
 refine kC (v:=.slice (some ⟨B,0,none⟩) n n) (by simp only [RK.val?,ev,updo,upd];simp [a2,hs']) ?_
 refine kC (v:=.int .i64 i) (by simp only [RK.val?,ev,updo,upd];simp [a0]) ?_
 refine kC (v:=.pointer (some ⟨B,i,none⟩)) (by
  simp only [RK.val?,ev,updo,upd,show (6:Nat)≠7 by decide,if_false,if_true]
  rw [if_pos (by omega)];simp [Addr.kK]) ?_
 refine kC (v:=u32v (G i)) (by simp only [RK.val?,ev,updo,upd,if_true,hi']) ?_
 refine kC (v:=.slice (some ⟨B,0,none⟩) n n) (by simp only [RK.val?,ev,updo,upd];simp [a2,hs']) ?_
 refine kC (v:=.int .i64 j) (by simp only [RK.val?,ev,updo,upd];simp [a1]) ?_
 refine kC (v:=.pointer (some ⟨B,j,none⟩)) (by
  simp only [RK.val?,ev,updo,upd,show (10:Nat)≠11 by decide,if_false,if_true]
  rw [if_pos (by omega)];simp [Addr.kK]) ?_
 refine kC (v:=u32v (G j)) (by simp only [RK.val?,ev,updo,upd,if_true,hj']) ?_
 refine kC (v:=.bool (ltN (G i) (G j))) (by
  simp only [RK.val?,ev,updo,upd,show (9:Nat)≠13 by decide,show (9:Nat)≠12 by decide,show (9:Nat)≠11 by decide,show (9:Nat)≠10 by decide,if_false,if_true,u32v,kL,decide_true,Bool.or_true,kM,ltN]
  congr 2;exact decide_eq_decide.2 (by omega)) ?_
 refine kC (v:=.bool (ltN (G i) (G j))) (by simp only [RK.val?,ev,updo,upd,if_true]) ?_
 refine kE ?_
 simp only [wpC,postC,rvals,List.mapM_cons,List.mapM_nil,RV.val,updo,upd,if_true,Option.bind_eq_bind,Option.bind_some,Option.pure_def,zR]
 exact ⟨trivial,trivial⟩
theorem kQG {ρ:Ren} (L:LaysGg.n6 P ρ) (hm:P.follows .mixedOrders=true) (hl:kH P (F wW)=some (ir_tEach1 F)) (hf:ρ.f 6=F uC) {e:TypeId} {i ie:TypeInfo} (hi:P.info? (F kAH)=some i) (hd:i.desc=.slice e)
  (hpk:P.packed (F kAH)=false) (hie:P.info? e=some ie) (ke:Nat) (hke :∀w,(Extern.Rtype.kind e).run P w=.ok ke w) (hs1:ie.size=1) (hagg :∀w,(isAgg e).run P w=.ok false w) (hp:ie.hasPointers=false) (hb:ie.bytes=4)
  (eg : ∀ args w, (callFunc (F wW) args).run P w = .ok (.enter (F wW) args) w) (f1 f2 f6 : Nat) (h1 : P.funcs.findIdx? (·.name == "internal/reflectlite" ++ ".Swapper$" ++ toString 1) = some f1) (h2 : P.funcs.findIdx? (·.name == "internal/reflectlite" ++ ".Swapper$" ++ toString 2) = some f2)
  (h6 : P.funcs.findIdx? (·.name == "internal/reflectlite" ++ ".Swapper$" ++ toString 6) = some f6) (gS : Bool) (hx : ∀ args W, (callFunc f6 args).run P W = ((Extern.ReflectliteSwapper.swap gS args).run P W).andThen fun v w' => .ok (.value v) w') :
  kPO P (F uC) (F wW) (F kAH):=by
 intro w B Bs ks hB hBs hne hlen hk32
 rw [←hf]
 by_cases hn:2≤ks.length
 ·have hK:Go.Lib.swapperK ks.toArray.size ie ke=6:=by
   have c:(ks.toArray.size==0)=false:=by simp;intro h;rw [h] at hn;simp at hn
   have d:(ks.toArray.size==1)=false:=by simp;omega
   simp only [Go.Lib.swapperK,hp,hb,c,d,Bool.false_and,Bool.false_eq_true,if_false]
  have hH:Go.Sort.Holds u32v w B 0 ks.toArray:=by
   intro j hj
   have hj':j<ks.length:=by simpa using hj
   refine ⟨?_,?_⟩
   ·rw [Nat.zero_add,hB.cell j,List.getElem?_map,List.getElem?_eq_getElem hj',getElem!_pos ks.toArray j hj]
    simp
   ·obtain ⟨T,fr,hb,hfr⟩:=hB
    obtain ⟨lo,hi⟩:=fr
    simp only [World.frozen?,hb,Nat.zero_add]
    simp only [List.length_map] at hfr
    simp only [Bool.and_eq_false_iff,decide_eq_false_iff_not]
    omega
  have hless:LessReads P (F wW) #[.pointer (some ⟨Bs,0,none⟩)] u32v ltN B 0 ks.toArray.size w:=by
   intro m os dk hs a b ha hb
   have hs':dk.size=ks.length:=by simpa using hs
   obtain ⟨q1,q2⟩:=kDM (w:=w) (B:=B) (m:=m) (dk:=dk) (os:=os) hB (by simpa using hs'.symm)
   have q3:=hBs.mod q1 (by simpa using hne)
   refine (kMG hm hl (w:=sortWorld u32v w B 0 m dk os) (B:=B) (Bs:=Bs) (n:=ks.length) (G:=fun t=>dk[t]!) (q3.cell 0) (fun t ht=>?_) (i:=a) (j:=b) (by simpa using ha) (by simpa using hb)).mono fun en w' hh=>⟨hh.1,1,hh.2⟩
   have:=q2.cell t
   rw [List.getElem?_map] at this
   have ht':t<dk.size:=by omega
   rw [show (sortWorld u32v w B 0 m dk os).cell? ⟨B,t,none⟩=_ from this,getElem!_pos dk t ht']
   simp [Array.getElem?_eq_getElem ht']
  have hS:=Any.sort_Slice_sorted L (F kAH) e i ie hi hd hpk hie ke hke hs1 hagg u32v (fun _=>rfl) ltN swo_ltN (F wW) #[.pointer (some ⟨Bs,0,none⟩)] eg B 0 ks.length ks.toArray (by simpa using hn) (by simp;omega) f6 (by rw [hK];exact h6) gS hx w hless hH hB.lt
  have hsz:ks.toArray.size=ks.length:=by simp
  rw [hsz] at hS
  refine hS.mono ?_
  rintro en w' ⟨rfl,d',n,os,⟨p1,-,p3⟩,hso,rfl⟩
  have hd':d'.size=ks.length:=by simpa using p1
  obtain ⟨q1,q2⟩:=kDM (w:=w) (B:=B) (m:=n) (dk:=d') (os:=os) hB (by simpa using hd'.symm)
  refine ⟨rfl,d'.toList,?_,?_,q2,q1⟩
  ·have x1:d'.extract 0 ks.length=d':=by rw [←hd'];exact Array.extract_size
   have x2:ks.toArray.extract 0 ks.length=ks.toArray:=by rw [←hsz];exact Array.extract_size
   rw [x1,x2] at p3
   exact p3
  ·rw [List.pairwise_iff_getElem]
   intro a b ha hb hab
   have ha':a<d'.size:=by simpa using ha
   have hb':b<d'.size:=by simpa using hb
   have:=hso a b (Nat.zero_le _) hab (by omega)
   rw [getElem!_pos d' a ha',getElem!_pos d' b hb'] at this
   simp only [ltN,decide_eq_false_iff_not] at this
   simp only [Array.getElem_toList]
   omega
 ·have hks:ks.length=0∨ks.length=1:=by omega
  have hfn : ∃ f, P.funcs.findIdx? (·.name == "internal/reflectlite" ++ ".Swapper$" ++ toString (Go.Lib.swapperK ks.length ie ke)) = some f := by
   rcases hks with h|h
   ·rw [h];exact ⟨f1,h1⟩
   ·rw [h];exact ⟨f2,h2⟩
  obtain ⟨f0,hf0⟩:=hfn
  refine (Any.sort_Slice_tiny L (F kAH) e i ie hi hd hpk hie ke hke (some ⟨B,0,none⟩) ks.length ks.length (by omega) f0 hf0 (.func (F wW)) #[] #[.pointer (some ⟨Bs,0,none⟩)] w).mono ?_
  rintro en w' ⟨rfl,os,rfl⟩
  have hm':Mod [] w (Go.Sort.grow w os):=⟨rfl,rfl,rfl,by show w.heap.size≤(w.heap++os).size;simp,fun k hk _=>by show (w.heap++os)[k]?=_;rw [Array.getElem?_append_left hk]⟩
  refine ⟨rfl,ks,.refl _,?_,hB.mod hm' (by simp),hm'.nil⟩
  match ks,hks with
  | [],_=>exact .nil
  | [x],_=>simp
end
end Go.Msk
