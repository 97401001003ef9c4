/- A small language of resolved operations, and what the generic and the generated functions do in it (part 14). -/
import Derived.Test.YtfoljfjkifiboaaGreatDoorFm
namespace Go.Msk
open Go.RowKit
set_option maxRecDepth 100000
theorem vT (ver:Int) (flex:Bool) :∀(a b:List FD) (i:Nat) (t:TR),zI ver flex (a++b) i t=zI ver flex a i t++zI ver flex b (i+a.length) t
 | [],b,i,t=>by simp [zI]
 | f::a,b,i,t=>by
   rw [List.cons_append,kBC,kBC,vT ver flex a b (i+1) t,List.append_assoc]
   congr 3
   simp;omega
theorem kFQ {ver:Int} {flex:Bool} {fs:List FD} {t:TR} {j:Nat} {f:FD} (h:fs[j]?=some f) :
  zI ver flex (fs.take (j+1)) 0 t=zI ver flex (fs.take j) 0 t++(if f.tag<0∧f.hasV ver=true then f.enc ver flex (t.at j) else []):=by
 have hl:j<fs.length:=(List.getElem?_eq_some_iff.1 h).1
 rw [yK h,vT,kBC]
 have e:0+(fs.take j).length=j:=by simp;omega
 rw [e];simp [zI]
theorem kCL (ver:Int) (flex:Bool) (fs:List FD) (t:TR) (j:Nat):(zI ver flex (fs.take j) 0 t).length≤(zI ver flex fs 0 t).length:=by
 have:zI ver flex fs 0 t=zI ver flex (fs.take j) 0 t++zI ver flex (fs.drop j) (0+(fs.take j).length) t:=by rw [←vT,List.take_append_drop]
 rw [this,List.length_append];omega
theorem kJ3 {fs:List FD} (h :∀f∈fs,f.tag<0):qN fs=0:=by
 have :∀(l:List FD),(∀f∈l,f.tag<0)→l.foldl (fun n f=>if f.tag≥0 then max n (f.tag.toNat+1) else n) 0=0:=by
  intro l
  induction l with
  | nil=>intro _;rfl
  | cons f l ih =>
    intro hl
    have:=hl f List.mem_cons_self
    simp only [List.foldl_cons]
    rw [if_neg (by omega)]
    exact ih fun g hg=>hl g (List.mem_cons_of_mem _ hg)
 exact this fs h
theorem kK1 {k:Nat} {b:List UInt8} (hk:k<4294967296) :∀{l:List (Nat×List UInt8)},(∀p∈l,p.1<4294967296) →∀p∈insU k b l,p.1<4294967296
 | [],_,p,hp=>by simp [insU] at hp;subst hp;exact hk
 | (k',b')::r,h,p,hp=>by
   have h1:=h (k',b') List.mem_cons_self
   have h2 :∀p∈r,p.1<4294967296:=fun p hp=>h p (List.mem_cons_of_mem _ hp)
   simp only [insU] at hp
   split at hp
   ·rcases List.mem_cons.1 hp with rfl|hp
    ·exact h1
    ·exact kK1 hk h2 p hp
   ·split at hp
    ·exact h p hp
    ·rcases List.mem_cons.1 hp with rfl|hp
     ·exact hk
     ·exact h p hp
theorem kDJ {fs:List FD} {u:List (Nat×List UInt8)} (h :∀p∈u,p.1<4294967296) :∀p∈kU fs u,p.1<4294967296:=by
 have :∀(l out:List (Nat×List UInt8)),(∀p∈l,p.1<4294967296)→(∀p∈out,p.1<4294967296) →∀p∈l.foldl (zS (qN fs)) out,p.1<4294967296:=by
  intro l
  induction l with
  | nil=>intro out _ h2;exact h2
  | cons t l ih =>
    intro out h1 h2
    simp only [List.foldl_cons]
    refine ih _ (fun p hp=>h1 p (List.mem_cons_of_mem _ hp)) ?_
    unfold zS
    split
    ·exact h2
    ·exact kK1 (h1 t List.mem_cons_self) h2
 exact this _ [] (fun p hp=>h p (List.mem_of_mem_take hp)) (by simp)
theorem kAV (fs:List FD) (u:List (Nat×List UInt8)):(kU fs u).length≤32767:=by
 have:=kBB (qN fs) (u.take 32767) []
 unfold kU
 simp at this ⊢;omega
theorem SlC.app {N:Nat} {w w':World} {v x x':Value} {n:Nat} {cs:List Value} {l l':List UInt8} (h:SlC (fun b=>b<N) w v n cs) (ha:AppD N w x w' x' l') (hd:DRaw w N x l):SlC (fun b=>b<N) w' v n cs :=
 h.mod ha.mod (fun b hb hc=>by have:=(hd.own (b:=b) (by simpa using hb)).1;omega) fun _ _ h=>h
section
variable {P:Program} {F:Nat→Nat}
attribute [local simp] gOk updo upd ev RK.val? kL kM Addr.kK qE Value.cells undef
theorem kL6 (hm:P.follows .mixedOrders=true) (hh:kH P (F sHas)=some (ir_sHas F)) (ha:kH P (F sAt)=some (ir_sAt F))
  {w0 w:World} {tb j n c:Nat} {ver:Int} {flex:Bool} {f:FD} {fcs tcs:List Value} {t:TR} {σ:Sl} {a:Addr} {out:List UInt8} {Q:Exit→Sl→World→Prop}
  (hm0:Mod [] w0 w) (hbt:Blk w0 tb tcs) (hrf:RepF anyB w0 f fcs) (hrt:RepT anyB w0 t tcs) (hk:t.kok) (hF:kCK P F ver flex f) (htag:f.tag<0)
  (h1:σ 1=.int .i64 ver) (h2:σ 2=.bool flex) (h7:σ 7=.pointer (some ⟨tb,0,none⟩)) (h21:σ 21=.slice (some a) n c) (h23:σ 23=.int .i64 (j:Nat)) (hj:j<n) (hcell:kV w0 (a.add (j*8)) 0 8=some fcs)
  (h9:DRaw w w0.heap.size (σ 9) out) (hlen:(out++(if f.tag<0∧f.hasV ver=true then f.enc ver flex (t.at j) else [])).length≤lim)
  (hQ :∀σ' w',(∀s,s<24→s≠9→s≠12→s≠13→σ' s=σ s)→DRaw w' w0.heap.size (σ' 9) (out++(if f.tag<0∧f.hasV ver=true then f.enc ver flex (t.at j) else []))→Mod [] w0 w'→Q .normal σ' w'):wpC P (ir_sPart_1 F) Q σ w:=by
 unfold ir_sPart_1
 have hcell1:=qA hm0.below _ _ _ hcell
 rw [wpC_seq,kD]
 refine go1 (v:=.int .i64 (j:Nat)) rfl (by simp [h23]) ?_
 refine go1 (v:=.pointer (some (a.add (j*8)))) rfl (by simp [h21,h23,hj]) ?_
 refine go1 (v:=.agg fcs.toArray) rfl (by simp [hcell1]) ?_
 refine jI fun w2 hb2 hm2=>?_
 refine go1 (v:=.int .i64 (j:Nat)) rfl (by simp) ?_
 refine goSt (b:=w.heap.size) (v:=.agg fcs.toArray) (by simp) (by simp) hb2 (by simp [hrf.eight]) rfl (by simpa using hrf.oneCell) fun w3 hb3 hm3=>?_
 have hb3:Blk w3 w.heap.size fcs:=by simpa using hb3
 have hm13:Mod [] w w3:=Mod.drop (b:=w.heap.size) (S:=[]) (hm2.nil.trans hm3) (Nat.le_refl _)
 have hm03:=hm0.trans hm13
 refine kE ?_
 have c3:=fun k=>hb3.cell k
 have ht4:fcs[4]?=some (.int .i64 f.tag):=by cases hrf;rfl
 rw [wpC_seq,kD]
 refine go1 (v:=.pointer (some ⟨w.heap.size,4,none⟩)) rfl (by simp) ?_
 refine go1 (v:=.int .i64 f.tag) rfl (by simp [c3,ht4]) ?_
 refine go1 (v:=.bool true) rfl (by simp [htag]) ?_
 refine go1 (v:=.bool true) rfl (by simp) ?_
 refine go1 (v:=.agg fcs.toArray) (by simp) (by simp [kJ hb3.cells hrf.eight]) ?_
 refine go1 (v:=.int .i64 ver) (by simp) (by simp [h1]) ?_
 refine qF (by simp) (vs:=[.agg fcs.toArray,.int .i64 ver]) (by simp) (kGU hm hh (hrf.keep hm03)) ?_
 rintro e w4 ⟨rfl,hm4⟩
 have hm04:=hm03.trans hm4
 refine ⟨_,rfl,?_⟩
 refine go1 (v:=.bool (f.hasV ver)) rfl (by simp [FD.hasV]) (kE ?_)
 cases hhas:f.hasV ver with
 | false =>
   rw [kG (by simp),wpC_skip]
   have e0:(if f.tag<0∧f.hasV ver=true then f.enc ver flex (t.at j) else [])=[]:=by simp [hhas]
   rw [e0,List.append_nil] at hQ
   refine hQ _ w4 (fun s s1 s2 s3 s4=>?_) (by simpa using h9.keep (hm13.trans hm4)) hm04
   simp only [updo,upd]
   repeat rw [if_neg (by omega)]
 | true =>
   have e0:(if f.tag<0∧f.hasV ver=true then f.enc ver flex (t.at j) else [])=f.enc ver flex (t.at j):=by simp [hhas,htag]
   rw [e0] at hQ hlen
   rw [kI (by simp)]
   simp only [wpC]
   have hmd:Mod [] w0 w4.drew:=hm04.trans (Mod.drew _ _)
   have hb4:Blk w4.drew w.heap.size fcs:=(hb3.mod hm4 (by simp)).mod (Mod.drew [] _) (by simp)
   have hbt4:=hbt.mod hmd (by simp)
   refine zM (fun i v w'=>match i with|6 =>∃cs,v=.agg cs.toArray∧RepT anyB w' (t.at j) cs|7=>DRaw w' w0.heap.size v (f.enc ver flex (t.at j))|_=>True) (by
    intro i v w w' h hm
    split at h
    ·obtain ⟨cs,e1,e2⟩:=h;exact ⟨cs,e1,e2.keep hm⟩
    ·exact h.keep hm
    ·trivial) ?_
   refine bo1 (v:=σ 9) rfl (by simp) ?_
   refine bo1 (v:=.agg fcs.toArray) rfl (by simp [kJ hb4.cells hrf.eight]) ?_
   refine bo1 (v:=.int .i64 ver) rfl (by simp [h1]) ?_
   refine bo1 (v:=.bool flex) rfl (by simp [h2]) ?_
   refine bo1 (v:=.agg tcs.toArray) rfl (by simp [h7,kJ hbt4.cells hrt.five]) ?_
   refine bo1 (v:=.int .i64 (j:Nat)) rfl (by simp) ?_
   refine jB (vs:=[.agg tcs.toArray,.int .i64 (j:Nat)]) rfl (by simp) (fun w' hm' _=>(kAP hm ha (hrt.keep (hmd.trans hm'))).mono ?_) ?_
   ·rintro e w'' ⟨cs,rfl,hr,hm2⟩;exact ⟨_,rfl,hm2,cs,rfl,hr⟩
   rintro v6 ⟨_,cs6,rfl,-⟩
   refine jB (vs:=[.agg fcs.toArray,.int .i64 ver,.bool flex,.agg cs6.toArray]) rfl (by simp) (fun w' hm' hkn=>?_) ?_
   ·have hk6:=qY (j:=6) (t:=42) hkn (by simp) rfl rfl rfl rfl
    obtain ⟨cs,e1,e2⟩:=hk6
    simp only [updo,upd,if_true,Value.agg.injEq,Array.mk.injEq] at e1
    have e1:cs6=cs:=by simpa using e1
    subst e1
    refine (hF w' fcs (t.at j) cs6 (hrf.keep (hmd.trans hm')) e2 (hk.at j) (by simp only [List.length_append] at hlen;omega)).mono ?_
    rintro e w'' ⟨v,rfl,hd,hm2⟩;exact ⟨v,rfl,hm2,hd.low (hmd.trans hm').size⟩
   rintro v7 -
   intro w' hm' hkn
   have hk7:=qY (j:=7) (t:=43) hkn (by simp) rfl rfl rfl rfl
   have d7:DRaw w' w0.heap.size v7 (f.enc ver flex (t.at j)):=by simpa using hk7
   have hdr:DRaw w' w0.heap.size (σ 9) out:=h9.keep ((hm13.trans hm4).trans ((Mod.drew _ _).trans hm'))
   have hmw:=hmd.trans hm'
   refine goC rfl ?_
   refine qR (n0:=w0.heap.size) (v:=σ 9) (by simp) hdr hmw.size (k:=f.enc ver flex (t.at j)) (by simpa using d7.src) (by simpa using hlen) fun v' w5 ha=>?_
   refine go1 (v:=v') rfl (by simp) (kP ?_)
   refine hQ _ w5 (fun s s1 s2 s3 s4=>?_) (by simpa using ha.raw) (ha.mod0 hdr hmw)
   simp only [updo,upd]
   repeat rw [if_neg (by omega)]
theorem kPW (hm:P.follows .mixedOrders=true) (hu:kH P (F z8)=some (ir_sUvarint F)) (hw:kH P (F yR)=some (ir_sWhole F))
  {w0 w:World} {j n c k:Nat} {b out:List UInt8} {sv:Value} {σ:Sl} {a:Addr} {Q:Exit→Sl→World→Prop} (hm0:Mod [] w0 w) (h100:σ 100=.slice (some a) n c) (h102:σ 102=.int .i64 (j:Nat)) (hj:j<n) (hn:n≤32767) (h11:σ 11=.int .i64 (j:Nat)) (hk:k<4294967296)
  (hcell:kV w0 (a.add (j*2)) 0 2=some [.int .u32 (k:Nat),sv]) (hsv:SlC anyB w0 sv b.length (u8s b)) (h10:DRaw w w0.heap.size (σ 10) out) (hlen:(out++(uvE k++(uvE (kN b).length++kN b))).length≤lim)
  (hQ :∀σ' w',(∀s,s<104→s≠10→s≠11→s≠19→s≠20→σ' s=σ s)→σ' 11=.int .i64 ((j+1:Nat):Int)→DRaw w' w0.heap.size (σ' 10) (out++(uvE k++(uvE (kN b).length++kN b)))→Mod [] w0 w'→Q .normal σ' w'):wpC P (ir_sPart_5 F) Q σ w:=by
 unfold ir_sPart_5
 have hcell1:=qA hm0.below _ _ _ hcell
 rw [wpC_seq,kD]
 refine go1 (v:=.pointer (some (a.add (j*2)))) rfl (by simp [h100,h102,hj]) ?_
 refine go1 (v:=.agg #[.int .u32 (k:Nat),sv]) rfl (by simp [hcell1]) ?_
 refine jI fun w1 hb1 hm1=>?_
 refine goSt (b:=w.heap.size) (v:=.agg #[.int .u32 (k:Nat),sv]) (by simp) (by simp) hb1 rfl rfl (kGY hsv.one) fun w2 hb2 hm2=>?_
 have hb2:Blk w2 w.heap.size [.int .u32 (k:Nat),sv]:=by simpa using hb2
 have hm12:Mod [] w w2:=Mod.drop (b:=w.heap.size) (S:=[]) (hm1.nil.trans hm2) (Nat.le_refl _)
 have hm02:=hm0.trans hm12
 have c2:=fun k=>hb2.cell k
 have hsv2:SlC (fun b=>b<w0.heap.size) w2 sv b.length (u8s b):=hsv.lowN.mod hm02 (by simp) fun _ _ h=>h
 refine kE ?_
 rw [wpC_seq,kD]
 refine go1 (v:=.pointer (some ⟨w.heap.size,1,none⟩)) rfl (by simp) ?_
 refine go1 (v:=sv) rfl (by simp [c2]) ?_
 refine qF rfl (vs:=[sv]) (by simp) (wQ hm hw hsv2) ?_
 rintro e w3 ⟨ew,v3,rfl,hv3⟩
 rw [ew]
 refine ⟨v3,rfl,go1 (v:=v3) rfl (by simp) (kE ?_)⟩
 obtain ⟨vb,vc,ev3⟩:=hv3.shape
 have hwl:(kN b).length≤32767:=by simp [kN];omega
 simp only [List.length_append] at hlen
 rw [wpC_seq,kD]
 refine go1 (v:=σ 10) rfl (by simp) ?_
 refine go1 (v:=.pointer (some ⟨w.heap.size,0,none⟩)) rfl (by simp) ?_
 refine go1 (v:=.int .u32 (k:Nat)) rfl (by simp [c2]) ?_
 refine go1 (v:=.int .u64 (k:Nat)) rfl (by simp [xL (n:=k) (by omega)]) ?_
 refine qF rfl (vs:=[.int .u64 (k:Nat)]) (by simp) (jS hm hu (by omega)) ?_
 rintro e w4 ⟨v4,rfl,hd4,hm4⟩
 refine ⟨v4,rfl,?_⟩
 have hm04:=hm02.trans hm4
 have r0:DRaw w4 w0.heap.size (σ 10) out:=h10.keep (hm12.trans hm4)
 refine goC rfl ?_
 refine qR (n0:=w0.heap.size) (v:=σ 10) (by simp) r0 hm04.size (k:=uvE k) (by simpa using hd4.src) (by omega) fun v5 w5 ha5=>?_
 have hm05:=ha5.mod0 r0 hm04
 have hv35:SlC (fun b=>b<w0.heap.size) w5 v3 (kN b).length (u8s (kN b)):=(hv3.mod hm4 (by simp) fun _ _ h=>h).app ha5 r0
 refine go1 (v:=v3) rfl (by simp) ?_
 refine go1 (v:=.int .i64 ((kN b).length:Nat)) rfl (by simp [ev3]) ?_
 refine go1 (v:=.int .u64 ((kN b).length:Nat)) rfl (by simp [xL (n:=(kN b).length) (by omega)]) ?_
 refine qF rfl (vs:=[.int .u64 ((kN b).length:Nat)]) (by simp) (jS hm hu (by omega)) ?_
 rintro e w6 ⟨v6,rfl,hd6,hm6⟩
 refine ⟨v6,rfl,?_⟩
 have r1:=ha5.raw.keep hm6
 refine goC rfl ?_
 refine qR (n0:=w0.heap.size) (v:=v5) (by simp) r1 (hm05.trans hm6).size (k:=uvE (kN b).length) (by simpa using hd6.src) (by simp only [List.length_append];omega) fun v7 w7 ha7=>?_
 have hm07:=ha7.mod0 r1 (hm05.trans hm6)
 have hv37:SlC (fun b=>b<w0.heap.size) w7 v3 (kN b).length (u8s (kN b)):=(hv35.mod hm6 (by simp) fun _ _ h=>h).app ha7 r1
 refine go1 (v:=v3) rfl (by simp) ?_
 refine goC rfl ?_
 refine qR (n0:=w0.heap.size) (v:=v7) (by simp) ha7.raw hm07.size (k:=kN b) (by simpa using hv37.src) (by simp only [List.length_append];omega) fun v8 w8 ha8=>?_
 have hm08:=ha8.mod0 ha7.raw hm07
 refine go1 (v:=v8) rfl (by simp) (kE ?_)
 rw [kD]
 refine go1 (v:=.int .i64 (j:Nat)) rfl (by simp [h11]) ?_
 refine go1 (v:=.int .i64 ((j+1:Nat):Int)) rfl (by
  simp only [RK.val?,ev,updo,upd,if_true,kL,decide_true,Bool.or_true,kM]
  rw [show (j:Int)+1=((j+1:Nat):Int) by omega,xR (by omega)]) ?_
 refine go1 (v:=.int .i64 ((j+1:Nat):Int)) rfl (by simp) (kP ?_)
 refine hQ _ w8 (fun s s1 s2 s3 s4 s5=>?_) (by simp) (by simpa [List.append_assoc] using ha8.raw) hm08
 simp only [updo,upd]
 repeat rw [if_neg (by omega)]
theorem kFR {u:List (Nat×List UInt8)} {j:Nat} {p:Nat×List UInt8} (h:u[j]?=some p):y7 (u.take (j+1))=y7 (u.take j)++(uvE p.1++(uvE (kN p.2).length++kN p.2)):=kAU h
theorem kIM (hm:P.follows .mixedOrders=true) (h:kH P (F kGF)=some (ir_sPart F)) (hh:kH P (F sHas)=some (ir_sHas F)) (ha:kH P (F sAt)=some (ir_sAt F)) (hu:kH P (F z8)=some (ir_sUvarint F)) (hw:kH P (F yR)=some (ir_sWhole F))
  (hkn:kH P (F vR)=some (ir_sKnown F)) (hun:kH P (F yA)=some (ir_sUnknown F)) {ver:Int} {flex:Bool} {fs:List FD} (hF :∀f∈fs,kCK P F ver flex f) (htag :∀f∈fs,f.tag<0) (hfl:fs.length<2147483648):kL3 P F ver flex fs:=by
 intro w v css t ts hv hr ht hk hlen
 have hk5:=ht.five
 unfold ir_sPart at h
 refine kT h hm (by simp) ?_
 clear h
 rw [wpC_seq,kD]
 refine wB (v:=.agg ts.toArray) (by simp) fun w1 hb1 hm1=>?_
 have hb1:Blk w1 w.heap.size ts:=by simpa using hb1
 refine go1 rfl rfl (kE ?_)
 rw [wpC_seq,kD]
 refine go1 rfl rfl (go1 rfl rfl (kE ?_))
 rw [wpC_seq,kD]
 refine go1 rfl rfl (kE ?_)
 obtain ⟨vb,vc,ev'⟩:=hv.shape
 rw [wpC_seq,wpC_seq,kD]
 refine go1 (v:=v) rfl (by simp) ?_
 refine go1 (v:=.int .i64 fs.length) rfl (by simp [ev']) ?_
 refine go1 rfl rfl (kE ?_)
 have hv1:=hv.keep hm1
 have hr1:=hr.keep hm1
 have ht1:=ht.keep hm1
 have hbody:(zI ver flex fs 0 t).length≤lim:=by unfold yV vM at hlen;simp only [List.length_append] at hlen;omega
 refine rangeLoop (n:=fs.length) (fun j σ w'=>σ 21=v∧σ 23=.int .i64 (j:Nat)∧σ 22=.int .i64 (fs.length:Nat)∧σ 0=v∧σ 1=.int .i64 ver∧σ 2=.bool flex∧σ 7=.pointer (some ⟨w.heap.size,0,none⟩)∧σ 10=.slice none 0 0∧σ 11=.int .i64 0 ∧
   DRaw w' w1.heap.size (σ 9) (zI ver flex (fs.take j) 0 t)∧Mod [] w1 w') (by omega) (by omega) (fun j σ w h=>⟨h.2.1,h.2.2.1⟩) ?_ ?_ ?_
 ·exact ⟨by simp,by simp,by simp,by simp,by simp,by simp,by simp,by simp,by simp,by simpa [zI] using DRaw.nil w1 _,Mod.refl _ _⟩
 ·rintro j σ w2 hj ⟨h21,h23,h22,h0,h1,h2,h7,h10,h11,hd,hm2⟩
  obtain ⟨f,hf⟩ :∃f,fs[j]?=some f:=⟨_,List.getElem?_eq_getElem hj⟩
  obtain ⟨fcs,hcs,hrep⟩:=hr1.nth hf
  obtain ⟨a,c,ea,hjn,hcell⟩:=hv1.flat hr1.length hr1.eight hcs
  have hfm:=List.mem_of_getElem? hf
  have hsn:=kFQ (ver:=ver) (flex:=flex) (t:=t) hf
  refine kL6 (w0:=w1) (n:=fs.length) (c:=c) (a:=a) (f:=f) (t:=t) hm hh ha hm2 hb1 hrep ht1 hk (hF f hfm) (htag f hfm) (by simp [h1]) (by simp [h2]) (by simp [h7]) (by simp [h21,ea]) (by simp [h23]) hj hcell (by simpa using hd) (by
   rw [←hsn];exact Nat.le_trans (kCL ver flex fs t _) hbody) fun σ' w' hfr hd' hm'=>?_
  rw [←hsn] at hd'
  simp only [rngP]
  have g :∀s,s<24→s≠9→s≠12→s≠13→σ' s=σ s:=fun s s1 s2 s3 s4=>by rw [hfr s s1 s2 s3 s4,upd_ne _ _ (by omega)]
  refine ⟨by rw [g 23 (by omega) (by omega) (by omega) (by omega)];exact h23,?_,by simp,?_,?_,?_,?_,?_,?_,?_,?_,hm'⟩
  ·simp only [upd];rw [if_neg (by omega),if_neg (by omega),g 21 (by omega) (by omega) (by omega) (by omega)];exact h21
  ·simp only [upd];rw [if_neg (by omega),if_neg (by omega),g 22 (by omega) (by omega) (by omega) (by omega)];exact h22
  ·simp only [upd];rw [if_neg (by omega),if_neg (by omega),g 0 (by omega) (by omega) (by omega) (by omega)];exact h0
  ·simp only [upd];rw [if_neg (by omega),if_neg (by omega),g 1 (by omega) (by omega) (by omega) (by omega)];exact h1
  ·simp only [upd];rw [if_neg (by omega),if_neg (by omega),g 2 (by omega) (by omega) (by omega) (by omega)];exact h2
  ·simp only [upd];rw [if_neg (by omega),if_neg (by omega),g 7 (by omega) (by omega) (by omega) (by omega)];exact h7
  ·simp only [upd];rw [if_neg (by omega),if_neg (by omega),g 10 (by omega) (by omega) (by omega) (by omega)];exact h10
  ·simp only [upd];rw [if_neg (by omega),if_neg (by omega),g 11 (by omega) (by omega) (by omega) (by omega)];exact h11
  ·simpa [upd] using hd'
 ·rintro σ w2 ⟨h21,h23,h22,h0,h1,h2,h7,h10,h11,hd,hm2⟩
  rw [List.take_of_length_le (Nat.le_refl _)] at hd
  have hm02:=hm1.trans hm2
  simp only [kF]
  rw [wpC_seq,wpC_seq,kD]
  refine go1 (v:=.bool flex) rfl (by simp [h2]) ?_
  refine go1 (v:=.bool (!flex)) rfl (by simp) (kE ?_)
  cases flex with
  | false =>
    rw [kI (by simp),wpC_seq,kD]
    refine go1 (v:=σ 9) rfl (by simp) ?_
    refine go1 (v:=σ 9) rfl (by simp) (kE ?_)
    repeat first|refine zP ?_|refine j3 ?_
    refine ret1 (v:=σ 9) (by simp) ⟨_,rfl,?_,hm02⟩
    have:=hd.low hm1.size
    simpa [yV,vM] using this
  | true =>
    rw [kG (by simp),wpC_skip]
    simp only [kF]
    rw [wpC_seq,wpC_seq,kD]
    refine go1 (v:=v) rfl (by simp [h0]) ?_
    refine qF rfl (vs:=[v]) (by simp) (kC2 hm hkn (hv.keep hm02) (hr.keep hm02) hfl (fun f hf=>by have:=htag f hf;omega)) ?_
    rintro e w3 ⟨rfl,hm3⟩
    refine ⟨_,rfl,?_⟩
    rw [kJ3 htag]
    have hm03:=hm02.trans hm3
    refine go1 (v:=.int .i64 0) rfl (by simp [kCB]) ?_
    refine go1 rfl rfl (kE ?_)
    rw [wpC_block,wpC_loop]
    refine ⟨fun σ' w'=>w'=w3∧σ' 52=.int .i64 0∧σ' 51=.int .i64 0∧σ' 0=v∧σ' 7=.pointer (some ⟨w.heap.size,0,none⟩)∧σ' 10=.slice none 0 0∧σ' 11=.int .i64 0∧σ' 9=σ 9,fun _ _=>0,⟨rfl,by simp,by simp,by simp [h0],by simp [h7],by simp [h10],by simp [h11],by simp⟩,?_⟩
    rintro σ3 w3' ⟨ew,k52,k51,k0,k7,k10,k11,k9⟩
    rw [ew]
    rw [wpC_seq,kD]
    refine go1 (v:=.bool false) rfl (by simp [k52,k51]) (kE ?_)
    rw [wpC_seq,kG (by simp)]
    refine wE ?_
    simp only [kF]
    rw [wpC_seq,wpC_seq,kD]
    have hb3:Blk w3 w.heap.size ts:=hb1.mod (hm2.trans hm3) (by simp)
    have c3:=fun k=>hb3.cell k
    have ht3:=ht.keep hm03
    cases ht with
    | @mk n s tn l u tsv lv uv tss uss g1 g2 g3 g4 g5 =>
    have hku :∀p∈u,p.1<4294967296:=by simp only [TR.kok] at hk;exact hk.1
    refine go1 (v:=v) rfl (by simp [k0]) ?_
    refine go1 (v:=.pointer (some ⟨w.heap.size,4,none⟩)) rfl (by simp [k7]) ?_
    refine go1 (v:=uv) rfl (by simp [c3]) ?_
    refine qF rfl (vs:=[v,uv]) (by simp) (vS hm hun hkn (hv.keep hm03) (hr.keep hm03) hfl (fun f hf=>by have:=htag f hf;omega) (g4.keep hm03) (g5.keep hm03)) ?_
    rintro e w4 ⟨lv4,ucs,rfl,hl4,hu4,hm4⟩
    refine ⟨_,rfl,?_⟩
    have hm04:=hm03.trans hm4
    have hpl:yV ver true fs (.mk n s tn l u)=zI ver true fs 0 (.mk n s tn l u)++(uvE (kU fs u).length++y7 (kU fs u)):=by simp [yV,vM,TR.u]
    rw [hpl] at hlen ⊢
    have hku':=kDJ (fs:=fs) hku
    have hul:=kAV fs u
    generalize kU fs u=U at hl4 hu4 hlen hku' hul ⊢
    obtain ⟨ub,uc,eu⟩:=hl4.shape
    have hdr:DRaw w4 w1.heap.size (σ 9) (zI ver true fs 0 (.mk n s tn l u)):=hd.keep (hm3.trans hm4)
    refine go1 (v:=.int .i64 (U.length:Nat)) rfl (by simp [eu]) ?_
    refine go1 rfl rfl (kE ?_)
    refine rangeLoop (n:=U.length)
     (fun j σ' w'=>σ' 100=lv4∧σ' 102=.int .i64 (j:Nat)∧σ' 101=.int .i64 (U.length:Nat)∧σ' 11=.int .i64 (j:Nat)∧σ' 9=σ 9∧DRaw w' w4.heap.size (σ' 10) (y7 (U.take j))∧Mod [] w4 w')
     (by omega) (by omega) (fun j σ w h=>⟨h.2.1,h.2.2.1⟩) ?_ ?_ ?_
    ·exact ⟨by simp,by simp,by simp,by simp [k11],by simp [k9],by simpa [y7,k10] using DRaw.nil w4 _,Mod.refl _ _⟩
    ·rintro j σ5 w5 hj ⟨q100,q102,q101,q11,q9,qd,qm⟩
     obtain ⟨p,hp⟩ :∃p,U[j]?=some p:=⟨_,List.getElem?_eq_getElem hj⟩
     obtain ⟨psv,hps,hpsv⟩:=hu4.nth hp
     obtain ⟨a,c,ea,hjn,hcell⟩:=hl4.flat hu4.length hu4.two hps
     have hpm:=List.mem_of_getElem? hp
     have hsn:=kFR hp
     refine kPW (w0:=w4) (n:=U.length) (c:=c) (a:=a) (k:=p.1) (b:=p.2) hm hu hw qm (by simp [q100,ea]) (by simp [q102]) hj hul (by simp [q11]) (hku' p hpm) hcell hpsv (by simpa using qd) (by
      rw [←hsn]
      have:=vG (fun p:Nat×List UInt8=>uvE p.1++(uvE (kN p.2).length++kN p.2)) U (j+1)
      simp only [List.length_append] at hlen
      unfold y7 at hlen ⊢;omega) fun σ' w' hfr h11' hd' hm'=>?_
     rw [←hsn] at hd'
     simp only [rngP]
     have g :∀s,s<104→s≠10→s≠11→s≠19→s≠20→s≠103→σ' s=σ5 s:=fun s s1 s2 s3 s4 s5 s6=>by rw [hfr s s1 s2 s3 s4 s5,upd_ne _ _ s6]
     refine ⟨by rw [g 102 (by omega) (by omega) (by omega) (by omega) (by omega) (by omega)];exact q102,?_,by simp,?_,?_,?_,?_,hm'⟩
     ·simp only [upd];rw [if_neg (by omega),if_neg (by omega),g 100 (by omega) (by omega) (by omega) (by omega) (by omega) (by omega)];exact q100
     ·simp only [upd];rw [if_neg (by omega),if_neg (by omega),g 101 (by omega) (by omega) (by omega) (by omega) (by omega) (by omega)];exact q101
     ·simp only [upd];rw [if_neg (by omega),if_neg (by omega)];exact h11'
     ·simp only [upd];rw [if_neg (by omega),if_neg (by omega),g 9 (by omega) (by omega) (by omega) (by omega) (by omega) (by omega)];exact q9
     ·simpa [upd] using hd'
    ·rintro σ5 w5 ⟨q100,q102,q101,q11,q9,qd,qm⟩
     rw [List.take_of_length_le (Nat.le_refl _)] at qd
     have hm05:=hm04.trans qm
     simp only [List.length_append] at hlen
     simp only [kF]
     rw [wpC_seq,kD]
     refine go1 (v:=σ 9) rfl (by simp [q9]) ?_
     refine go1 (v:=.int .i64 (U.length:Nat)) rfl (by simp [q11]) ?_
     refine go1 (v:=.int .u64 (U.length:Nat)) rfl (by simp [xL (n:=U.length) (by omega)]) ?_
     refine qF rfl (vs:=[.int .u64 (U.length:Nat)]) (by simp) (jS hm hu (by omega)) ?_
     rintro e w6 ⟨v6,rfl,hd6,hm6⟩
     refine ⟨v6,rfl,?_⟩
     have r0:=hdr.keep (qm.trans hm6)
     have hm16:Mod [] w1 w6:=(hm2.trans hm3).trans ((hm4.trans qm).trans hm6)
     refine goC rfl ?_
     refine qR (n0:=w1.heap.size) (v:=σ 9) (by simp) r0 hm16.size (k:=uvE U.length) (by simpa using hd6.src) (by omega) fun v7 w7 ha7=>?_
     have hm17:=ha7.mod0 r0 hm16
     have qd7:DRaw w7 w4.heap.size (σ5 10) (y7 U):=(qd.keep hm6).mod ha7.mod fun b hb hc=>by
      have h1:=(qd.own hb).1
      have h2:=(hdr.own (b:=b) (by simpa using hc)).2
      omega
     refine go1 (v:=σ5 10) rfl (by simp) ?_
     refine goC rfl ?_
     refine qR (n0:=w1.heap.size) (v:=v7) (by simp) ha7.raw hm17.size (k:=y7 U) (by simpa using qd7.src) (by simp only [List.length_append];omega) fun v8 w8 ha8=>?_
     have hm18:=ha8.mod0 ha7.raw hm17
     refine go1 (v:=v8) rfl (by simp) (kE ?_)
     refine ret1 (v:=v8) (by simp) ⟨v8,rfl,?_,hm1.trans hm18⟩
     have:=ha8.raw.low hm1.size
     simpa [List.append_assoc] using this
end
end Go.Msk
namespace Go.Msk
open Go.RowKit
set_option maxRecDepth 100000
mutual
/-- No field, of the parts within too, has a tag; the lists of fields are short. -/
def FD.plain:FD→Bool
 | .mk _ _ _ _ tag _ _ sub=>decide (tag<0)&&(decide (sub.length<1000)&&FD.zN sub)
def FD.zN:List FD→Bool
 | []=>true
 | f::l=>f.plain&&FD.zN l
end
structure SLib (P:Program) (F:Nat→Nat):Prop where
 mixed:P.follows .mixedOrders=true
 has:kH P (F sHas)=some (ir_sHas F)
 null:kH P (F kJK)=some (ir_sNull F)
 whole:kH P (F yR)=some (ir_sWhole F)
 things:kH P (F uQ)=some (ir_sThings F)
 at_:kH P (F sAt)=some (ir_sAt F)
 uvarint:kH P (F z8)=some (ir_sUvarint F)
 fixed:kH P (F yU)=some (ir_sFixed F)
 width:kH P (F kBH)=some (ir_sWidth F)
 counted:kH P (F yG)=some (ir_sCounted F)
 value:kH P (F kFD)=some (ir_sValue F)
 field:kH P (F kHT)=some (ir_sField F)
 known:kH P (F vR)=some (ir_sKnown F)
 unknown:kH P (F yA)=some (ir_sUnknown F)
 part:kH P (F kGF)=some (ir_sPart F)
 write:kH P (F kHU)=some (ir_sWrite F)
theorem FD.yE :∀{l:List FD},FD.zN l=true →∀f∈l,f.plain=true
 | [],_,f,h=>by simp at h
 | a::l,hl,f,h=>by
   simp only [FD.zN,Bool.and_eq_true] at hl
   rcases List.mem_cons.1 h with rfl|h
   ·exact hl.1
   ·exact FD.yE hl.2 f h
theorem FD.plain.tag {f:FD} (h:f.plain=true):f.tag<0:=by
 cases f
 simp only [FD.plain,Bool.and_eq_true,decide_eq_true_eq] at h
 exact h.1
section
variable {P:Program} {F:Nat→Nat}
mutual
theorem FD.fieldC (L:SLib P F) (ver:Int) (flex:Bool) :∀f:FD,f.plain=true→kCK P F ver flex f
 | .mk kind frm to null tag dfl of sub,h=>by
   simp only [FD.plain,Bool.and_eq_true,decide_eq_true_eq] at h
   have hp:kL3 P F ver flex sub:=kIM L.mixed L.part L.has L.at_ L.uvarint L.whole L.known L.unknown (FD.kJ4 L ver flex sub h.2.2) (fun f hf=>FD.plain.tag (FD.yE h.2.2 f hf)) (by omega)
   exact kFP L.mixed L.field L.null L.things L.counted L.uvarint L.fixed (fun k=>kFO L.mixed L.value L.whole L.counted L.uvarint L.fixed L.width fun _=>hp) hp
theorem FD.kJ4 (L:SLib P F) (ver:Int) (flex:Bool) :∀l:List FD,FD.zN l=true →∀f∈l,kCK P F ver flex f
 | [],_,f,hf=>by simp at hf
 | a::l,h,f,hf=>by
   simp only [FD.zN,Bool.and_eq_true] at h
   rcases List.mem_cons.1 hf with e|hf
   ·rw [e];exact FD.fieldC L ver flex a h.1
   ·exact FD.kJ4 L ver flex l h.2 f hf
end
theorem kJ5 (L:SLib P F) (ver:Int) (flex:Bool) {fs:List FD} (h:FD.zN fs=true) (hl:fs.length<1000):kL3 P F ver flex fs :=
 kIM L.mixed L.part L.has L.at_ L.uvarint L.whole L.known L.unknown (FD.kJ4 L ver flex fs h) (fun f hf=>FD.plain.tag (FD.yE h f hf)) (by omega)
structure MD where
 fs:List FD
 flex:Int
 deriving Inhabited
def MD.qZ (m:MD) (ver:Int):Bool:=decide (m.flex≥0)&&decide (ver≥m.flex)
def kIN (m:MD) (ver:Int) (t:TR):List UInt8:=yV ver (m.qZ ver) m.fs t
inductive RepM (ok:Nat→Prop) (w:World):MD→List Value→Prop
 | mk {fs:List FD} {flex:Int} {v:Value} {css:List (List Value)}:SlC ok w v fs.length css.flatten→jU ok w fs css→RepM ok w ⟨fs,flex⟩ [v,.int .i64 flex]
theorem RepM.keep {w w':World} {m:MD} {cs:List Value} (h:RepM anyB w m cs) (hm:Mod [] w w'):RepM anyB w' m cs:=by
 cases h with|mk h1 h2=>exact .mk (h1.keep hm) (h2.keep hm)
attribute [local simp] gOk updo upd ev RK.val? kL kM Addr.kK qE Value.cells undef
end
end Go.Msk
namespace Go.Msk
open Go.RowKit
set_option maxRecDepth 100000
def kC4:IC×List RV×Nat :=
 (.seq (.blk [⟨some 1,.box (.tmp 0),none⟩,⟨some 2,.mv (.const (.bool false)),none⟩])
 (.seq (.seq (.blk [⟨some 3,.fad (.tmp 1) 1,none⟩,⟨some 4,.ld (.tmp 3),none⟩,⟨some 5,.len (.tmp 4),none⟩,⟨some 6,.bin .gtr (.tmp 5) (.const (.int .i64 2147483647)),none⟩])
  (.cond (.tmp 6) (.seq (.blk [⟨some 2,.mv (.const (.bool false)),none⟩]) .ret) .skip))
 (.seq (.blk [⟨some 2,.mv (.const (.bool true)),none⟩]) .ret)),[.tmp 2],7)
def kES (z3:FuncId):IC×List RV×Nat :=
 (.seq (.blk [⟨some 2,.mv (.const (.bool false)),none⟩])
 (.seq (.seq (.blk [⟨some 5,.mv (.tmp 0),none⟩,⟨some 6,.len (.tmp 5),none⟩,⟨some 7,.bin .gtr (.tmp 6) (.const (.int .i64 2147483647)),none⟩])
  (.cond (.tmp 7) (.seq (.blk [⟨some 2,.mv (.const (.bool false)),none⟩]) .ret) .skip))
 (.seq (.seq (.blk [⟨some 8,.mv (.tmp 0),none⟩,⟨some 9,.len (.tmp 8),none⟩,⟨some 10,.mv (.const (.int .i64 0)),none⟩])
  (.block 0 (.loop (.seq (.blk [⟨some 11,.bin .lss (.tmp 10) (.tmp 9),none⟩])
    (.seq (.cond (.tmp 11) .skip (.exit 0))
    (.seq (.block 1 (.seq (.blk [⟨some 12,.iad (.tmp 8) (.tmp 10) 2,none⟩,⟨some 13,.ldn (.tmp 12) 2,none⟩,⟨some 4,.alloc [.int .u32 0,.slice none 0 0],none⟩,⟨none,.st (.tmp 4) 2 (.tmp 13),none⟩])
      (.seq (.blk [⟨some 14,.ldn (.tmp 4) 2,none⟩,⟨some 15,.call z3 [.tmp 14],none⟩,⟨some 16,.lnot (.tmp 15),none⟩])
      (.cond (.tmp 16) (.seq (.blk [⟨some 2,.mv (.const (.bool false)),none⟩]) .ret) .skip))))
    (.blk [⟨some 17,.bin .add (.tmp 10) (.const (.int .i64 1)),none⟩,⟨some 10,.mv (.tmp 17),none⟩])))))))
 (.seq (.blk [⟨some 2,.mv (.const (.bool true)),none⟩]) .ret))),[.tmp 2],18)
def kGZ (z2:FuncId):IC×List RV×Nat :=
 (.seq (.blk [⟨some 1,.box (.tmp 0),none⟩,⟨some 2,.mv (.const (.bool false)),none⟩])
 (.seq (.seq (.blk [⟨some 3,.fad (.tmp 1) 1,none⟩,⟨some 4,.ld (.tmp 3),none⟩,⟨some 5,.len (.tmp 4),none⟩,⟨some 6,.bin .gtr (.tmp 5) (.const (.int .i64 2147483647)),none⟩])
  (.cond (.tmp 6) (.seq (.blk [⟨some 2,.mv (.const (.bool false)),none⟩]) .ret) .skip))
 (.seq (.seq (.blk [⟨some 7,.fad (.tmp 1) 3,none⟩,⟨some 8,.ld (.tmp 7),none⟩,⟨some 9,.len (.tmp 8),none⟩,⟨some 10,.bin .gtr (.tmp 9) (.const (.int .i64 2147483647)),none⟩])
  (.cond (.tmp 10) (.seq (.blk [⟨some 2,.mv (.const (.bool false)),none⟩]) .ret) .skip))
 (.seq (.seq (.blk [⟨some 11,.fad (.tmp 1) 4,none⟩,⟨some 12,.ld (.tmp 11),none⟩,⟨some 13,.call z2 [.tmp 12],none⟩,⟨some 14,.lnot (.tmp 13),none⟩])
  (.cond (.tmp 14) (.seq (.blk [⟨some 2,.mv (.const (.bool false)),none⟩]) .ret) .skip))
 (.seq (.blk [⟨some 2,.mv (.const (.bool true)),none⟩]) .ret)))),[.tmp 2],15)
def kPX (w:World):Ending→World→Prop:=fun e w' =>∃b,e=.returned (.bool b)∧Mod [] w w'
section
variable {P:Program}
attribute [local simp] gOk updo upd ev RK.val? kL kM Addr.kK qE Value.cells undef
theorem kPY (hm:P.follows .mixedOrders=true) {f:FuncId} (h:kH P f=some kC4) {w:World} {k:Value} {n:Nat} {b:Option Addr} {c:Nat}:Calls P f [.agg #[k,.slice b n c]].toArray w (kPX w):=by
 unfold kC4 at h
 refine kT h hm (by simp) ?_
 clear h
 rw [wpC_seq,kD]
 refine wB (v:=.agg #[k,.slice b n c]) (by simp) fun w1 hb1 hm1=>?_
 have hb1:Blk w1 w.heap.size [k,.slice b n c]:=by simpa using hb1
 have c1:=fun j=>hb1.cell j
 refine go1 (v:=.bool false) rfl (by simp) (kP ?_)
 simp only [kF]
 rw [wpC_seq,wpC_seq,kD]
 refine go1 (v:=.pointer (some ⟨w.heap.size,1,none⟩)) rfl (by simp) ?_
 refine go1 (v:=.slice b n c) rfl (by simp [c1]) ?_
 refine go1 (v:=.int .i64 (n:Nat)) rfl (by simp) ?_
 refine go1 (v:=.bool (decide ((n:Int)>2147483647))) rfl (by simp) (kP ?_)
 simp only [kF]
 by_cases hc:(n:Int)>2147483647
 ·rw [kI (by simp [hc]),wpC_seq,kD]
  refine go1 (v:=.bool false) rfl (by simp) (kP ?_)
  simp only [kF]
  repeat first|refine zP ?_|refine j3 ?_
  exact ret1 (v:=.bool false) (by simp) ⟨_,rfl,hm1⟩
 ·rw [kG (by simp [hc]),wpC_skip]
  simp only [kF]
  rw [wpC_seq,kD]
  refine go1 (v:=.bool true) rfl (by simp) (kP ?_)
  simp only [kF]
  exact ret1 (v:=.bool true) (by simp) ⟨_,rfl,hm1⟩
theorem kPZ (hm : P.follows .mixedOrders = true) {f z3 : FuncId} (h : kH P f = some (kES z3)) (h3 : kH P z3 = some kC4) {w : World} {v : Value} {u : List (Nat × List UInt8)} {uss : List (List Value)} (hv : SlC anyB w v u.length uss.flatten) (hu : RepU anyB w u uss) :
    Calls P f [v].toArray w (kPX w) := by
  unfold kES at h
  refine kT h hm (by simp) ?_
  clear h
  obtain ⟨vb, vc, ev'⟩ := hv.shape
  have ul : u.length = uss.length := by
    clear hv ev'
    induction hu with
    | nil => rfl
    | cons _ _ ih => simp [ih]
  rw [wpC_seq, kD]
  refine go1 (v := .bool false) rfl (by simp) (kP ?_)
  simp only [kF]
  rw [wpC_seq, wpC_seq, kD]
  refine go1 (v := v) rfl (by simp) ?_
  refine go1 (v := .int .i64 (u.length : Nat)) rfl (by simp [ev']) ?_
  refine go1 (v := .bool (decide ((u.length : Int) > 2147483647))) rfl (by simp) (kP ?_)
  simp only [kF]
  by_cases hc : (u.length : Int) > 2147483647
  · rw [kI (by simp [hc]), wpC_seq, kD]
    refine go1 (v := .bool false) rfl (by simp) (kP ?_)
    simp only [kF]
    repeat first | refine zP ?_ | refine j3 ?_
    exact ret1 (v := .bool false) (by simp) ⟨_, rfl, Mod.refl _ _⟩
  · rw [kG (by simp [hc]), wpC_skip]
    simp only [kF]
    rw [wpC_seq, wpC_seq, kD]
    refine go1 (v := v) rfl (by simp) ?_
    refine go1 (v := .int .i64 (u.length : Nat)) rfl (by simp [ev']) ?_
    refine go1 (v := .int .i64 (0 : Nat)) rfl (by simp) (kP ?_)
    simp only [kF]
    refine rangeLoop (n := u.length) (fun j σ w' => σ 8 = v ∧ σ 10 = .int .i64 (j : Nat) ∧ σ 9 = .int .i64 (u.length : Nat) ∧ Mod [] w w') (by omega) (by omega) (fun j σ w h => ⟨h.2.1, h.2.2.1⟩) ?_ ?_ ?_
    · exact ⟨by simp, by simp, by simp, Mod.refl _ _⟩
    · rintro j σ w1 hj ⟨k8, k10, k9, hm1⟩
      have hsh : ∀ {u : List (Nat × List UInt8)} {uss : List (List Value)}, RepU anyB w u uss → ∀ c ∈ uss, ∃ a b n d, c = [a, .slice b n d] := by
        intro u uss h
        induction h with
        | nil => simp
        | cons h _ ih =>
          intro c hc
          rcases List.mem_cons.1 hc with rfl | hc
          · obtain ⟨b, d, e⟩ := h.shape
            exact ⟨_, b, _, d, by rw [e]⟩
          · exact ih c hc
      have hc1 : uss[j]? = some uss[j] := List.getElem?_eq_getElem (by omega)
      obtain ⟨ka, kb, kn, kd, ek⟩ := hsh hu _ (List.mem_of_getElem? hc1)
      have hsz : ∀ c ∈ uss, c.length = 2 := fun c hc => by obtain ⟨a, b, n, d, rfl⟩ := hsh hu c hc; rfl
      obtain ⟨base, cap, e1, e2, e3, e4⟩ := hv
      cases base with
      | none => have := e3 rfl; omega
      | some a =>
        obtain ⟨-, q2, q3⟩ := e4 a rfl (by omega)
        obtain ⟨ab, ao, as⟩ := a
        have eb : as = none := q3.1
        subst eb
        have hce := q3.each hsz hc1
        rw [ek] at hce
        have hld := kJ (hce.mod hm1 (.inr (by simp))) (show [ka, Value.slice kb kn kd].length = 2 from rfl)
        subst e1
        rw [wpC_seq, kD]
        refine go1 (v := .pointer (some ⟨ab, ao + j * 2, none⟩)) rfl (by simp [k8, k10, hj]) ?_
        refine go1 (v := .agg #[ka, .slice kb kn kd]) rfl (by simp [hld]) ?_
        refine jI fun w2 hb2 hm2 => ?_
        have hone : ∀ y ∈ (Value.agg #[ka, .slice kb kn kd]).cells.toList, y.oneCell' = true := by
          have hku : ∀ {u : List (Nat × List UInt8)} {uss : List (List Value)}, RepU anyB w u uss → ∀ c ∈ uss, ∀ y ∈ c, y.oneCell' = true := by
            intro u uss h
            induction h with
            | nil => simp
            | cons h _ ih =>
              intro c hc y hy
              rcases List.mem_cons.1 hc with rfl | hc
              · simp only [List.mem_cons, List.not_mem_nil, or_false] at hy
                rcases hy with rfl | rfl
                · rfl
                · exact h.one
              · exact ih c hc y hy
          have := hku hu _ (List.mem_of_getElem? hc1)
          rw [ek] at this
          simpa using this
        refine goSt (b := w1.heap.size) (v := .agg #[ka, .slice kb kn kd]) (by simp) (by simp) hb2 (by simp) (by simp) hone fun w3 hb3 hm3 => kP ?_
        simp only [kF]
        have hb3 : Blk w3 w1.heap.size [ka, .slice kb kn kd] := by simpa using hb3
        have hm13 : Mod [] w1 w3 := Mod.drop (b := w1.heap.size) (S := []) (hm2.nil.trans hm3) (Nat.le_refl _)
        have hld3 := kJ hb3.cells (show [ka, Value.slice kb kn kd].length = 2 from rfl)
        rw [wpC_seq, kD]
        refine go1 (v := .agg #[ka, .slice kb kn kd]) rfl (by simp [hld3]) ?_
        refine qF rfl (vs := [.agg #[ka, .slice kb kn kd]]) (by simp) (kPY hm h3) ?_
        rintro e w4 ⟨b, rfl, hm4⟩
        refine ⟨_, rfl, go1 (v := .bool !b) rfl (by simp) (kP ?_)⟩
        simp only [kF]
        have hm04 := (hm1.trans hm13).trans hm4
        cases b with
        | false =>
          rw [kI (by simp), wpC_seq, kD]
          refine go1 (v := .bool false) rfl (by simp) (kP ?_)
          simp only [kF]
          repeat first | refine zP ?_ | refine j3 ?_ | refine kQR ?_
          exact ret1 (v := .bool false) (by simp) ⟨_, rfl, hm04⟩
        | true =>
          rw [kG (by simp), wpC_skip]
          refine ⟨by simp [k10], by simp [k8], by simp, by simp [k9], hm04⟩
    · rintro σ w1 ⟨-, -, -, hm1⟩
      simp only [kF]
      rw [wpC_seq, kD]
      refine go1 (v := .bool true) rfl (by simp) (kP ?_)
      simp only [kF]
      exact ret1 (v := .bool true) (by simp) ⟨_, rfl, hm1⟩
theorem kP0 (hm:P.follows .mixedOrders=true) {f z2 z3:FuncId} (h:kH P f=some (kGZ z2)) (h2:kH P z2=some (kES z3)) (h3:kH P z3=some kC4) {w:World} {t:TR} {ts:List Value} (ht:RepT anyB w t ts) :
  Calls P f [.agg ts.toArray].toArray w (kPX w):=by
 unfold kGZ at h
 refine kT h hm (by simp) ?_
 clear h
 cases ht with
 | @mk n s null l u sv lv uv css uss q1 q2 q3 q4 q5 =>
 obtain ⟨b1,c1,e1⟩:=q1.shape
 obtain ⟨b2,c2,e2⟩:=q2.shape
 rw [wpC_seq,kD]
 refine wB (v:=.agg #[.int .i64 n,sv,.bool null,lv,uv]) (by simp) fun w1 hb1 hm1=>?_
 have hb1:Blk w1 w.heap.size [.int .i64 n,sv,.bool null,lv,uv]:=by simpa using hb1
 have cc:=fun j=>hb1.cell j
 refine go1 (v:=.bool false) rfl (by simp) (kP ?_)
 simp only [kF]
 rw [wpC_seq,wpC_seq,kD]
 refine go1 (v:=.pointer (some ⟨w.heap.size,1,none⟩)) rfl (by simp) ?_
 refine go1 (v:=sv) rfl (by simp [cc]) ?_
 refine go1 (v:=.int .i64 (s.length:Nat)) rfl (by simp [e1]) ?_
 refine go1 (v:=.bool (decide ((s.length:Int)>2147483647))) rfl (by simp) (kP ?_)
 simp only [kF]
 by_cases hc:(s.length:Int)>2147483647
 ·rw [kI (by simp [hc]),wpC_seq,kD]
  refine go1 (v:=.bool false) rfl (by simp) (kP ?_)
  simp only [kF]
  repeat first|refine zP ?_|refine j3 ?_
  exact ret1 (v:=.bool false) (by simp) ⟨_,rfl,hm1⟩
 rw [kG (by simp [hc]),wpC_skip]
 simp only [kF]
 rw [wpC_seq,wpC_seq,kD]
 refine go1 (v:=.pointer (some ⟨w.heap.size,3,none⟩)) rfl (by simp) ?_
 refine go1 (v:=lv) rfl (by simp [cc]) ?_
 refine go1 (v:=.int .i64 (l.length:Nat)) rfl (by simp [e2]) ?_
 refine go1 (v:=.bool (decide ((l.length:Int)>2147483647))) rfl (by simp) (kP ?_)
 simp only [kF]
 by_cases hc2:(l.length:Int)>2147483647
 ·rw [kI (by simp [hc2]),wpC_seq,kD]
  refine go1 (v:=.bool false) rfl (by simp) (kP ?_)
  simp only [kF]
  repeat first|refine zP ?_|refine j3 ?_
  exact ret1 (v:=.bool false) (by simp) ⟨_,rfl,hm1⟩
 rw [kG (by simp [hc2]),wpC_skip]
 simp only [kF]
 rw [wpC_seq,wpC_seq,kD]
 refine go1 (v:=.pointer (some ⟨w.heap.size,4,none⟩)) rfl (by simp) ?_
 refine go1 (v:=uv) rfl (by simp [cc]) ?_
 refine qF rfl (vs:=[uv]) (by simp) (kPZ hm h2 h3 (q4.keep hm1) (q5.mod hm1 (by simp) fun _ _ _=>trivial)) ?_
 rintro e w2 ⟨b,rfl,hm2⟩
 refine ⟨_,rfl,go1 (v:=.bool !b) rfl (by simp) (kP ?_)⟩
 simp only [kF]
 have hm02:=hm1.trans hm2
 cases b with
 | false =>
   rw [kI (by simp),wpC_seq,kD]
   refine go1 (v:=.bool false) rfl (by simp) (kP ?_)
   simp only [kF]
   repeat first|refine zP ?_|refine j3 ?_
   exact ret1 (v:=.bool false) (by simp) ⟨_,rfl,hm02⟩
 | true =>
   rw [kG (by simp),wpC_skip]
   simp only [kF]
   rw [wpC_seq,kD]
   refine go1 (v:=.bool true) rfl (by simp) (kP ?_)
   simp only [kF]
   exact ret1 (v:=.bool true) (by simp) ⟨_,rfl,hm02⟩
end
abbrev at_ (l:List UInt8):RS:=⟨l,false,false⟩
theorem kIO :∀(k:Nat) (n:Int),(beNat (beI k n):Int)=n%256^k
 | 0,n=>by simp [beI,beNat]
 | k+1,n=>by
   have hp:(0:Int)<256^k:=Int.pow_pos (by omega)
   have ih:=kIO k n
   rw [beI,kLQ,zL]
   have h2:0≤(n/256^k)%256:=Int.emod_nonneg _ (by omega)
   have h3:(n/256^k)%256<256:=Int.emod_lt_of_pos _ (by omega)
   have e:(UInt8.ofNat ((n/256^k)%256).toNat).toNat=((n/256^k)%256).toNat:=by simp;omega
   rw [e]
   have e2:(((n/256^k)%256).toNat:Int)=(n/256^k)%256:=Int.toNat_of_nonneg h2
   rw [Int.natCast_add,Int.natCast_mul,e2,ih,kGT _ _ hp,Int.pow_succ]
   have q:(n%(256^k*256))%256^k=n%256^k:=Int.emod_emod_of_dvd n ⟨256,rfl⟩
   rw [←q]
   have:=Int.mul_ediv_add_emod (n%(256^k*256)) (256^k)
   have e3:((256^k:Nat):Int)=(256:Int)^k:=by simp
   rw [e3,Int.mul_comm]
   exact this
theorem kBX (k:Nat) (n:Int) (r:List UInt8):((rdN k (at_ (beI k n++r))).1:Int)=n%256^k∧(rdN k (at_ (beI k n++r))).2=at_ r:=by
 have hl:=zL k n
 have e:k≤(beI k n++r).length:=by simp [hl]
 have e1:(beI k n++r).take k=beI k n:=by have:=List.take_left (l₁:=beI k n) (l₂:=r);rwa [hl] at this
 have e2:(beI k n++r).drop k=r:=by have:=List.drop_left (l₁:=beI k n) (l₂:=r);rwa [hl] at this
 unfold rdN
 simp only [e,if_true,e1,e2]
 exact ⟨kIO k n,trivial⟩
theorem yX (l r:List UInt8):qG (l.length:Nat) (at_ (l++r))=(some l,at_ r):=by
 unfold qG
 rw [if_neg (by simp only [List.length_append];omega)]
 simp
theorem kNP :∀(k n:Nat) (r:List UInt8),n<16*128^k→uvR (k+1) (uvE n++r)=some (n,(uvE n).length)
 | 0,n,r,h=>by
   rw [kAN (by omega)]
   have e:(UInt8.ofNat n).toNat=n:=by simp;omega
   simp only [List.cons_append,List.nil_append,uvR,e,List.length_cons,List.length_nil]
   rw [if_pos (by omega),if_neg (by omega)]
 | k+1,n,r,h=>by
   by_cases hn:n<128
   ·rw [kAN hn]
    have e:(UInt8.ofNat n).toNat=n:=by simp;omega
    simp only [List.cons_append,List.nil_append,List.length_cons,List.length_nil]
    rw [uvR,e,if_pos hn,if_neg (by omega)]
   ·rw [kCY (by omega)]
    have e:(UInt8.ofNat (n%128+128)).toNat=n%128+128:=by simp;omega
    have ih:=kNP k (n/128) r (by rw [Nat.pow_succ] at h;omega)
    simp only [List.cons_append,List.length_cons]
    rw [uvR,e,if_neg (by omega),ih]
    simp only
    congr 2
    omega
theorem y5 {n:Nat} (h:n<4294967296) (r:List UInt8):rdUv (at_ (uvE n++r))=(n,at_ r):=by
 unfold rdUv
 rw [kNP 4 n r (by omega)]
 simp
def kindOk (kind:Int) (nul:Bool) (p:PK):Bool :=
 match p with
 | .bool=>decide (kind=0)
 | .i8=>decide (kind=1)
 | .i16=>decide (kind=2)
 | .u16=>decide (kind=5)
 | .i32=>decide (kind=3)
 | .i64=>decide (kind=4)
 | .uuid=>decide (kind=7)
 | .str=>decide (kind=8)&&!nul
 | .nstr=>decide (kind=8)
 | .byt=>decide (kind=9)&&!nul
 | _=>false
theorem pair_of {α β:Type} {p:α×β} {a:α} {b:β} (h1:p.1=a) (h2:p.2=b):p=(a,b):=by cases p;simp_all
theorem wc16 (j:Int):IntKind.i16.wrap (j%65536)=IntKind.i16.wrap j:=by
 simp only [IntKind.wrap,IntKind.bits,IntKind.signed];simp
theorem wc8 (j:Int):IntKind.i8.wrap (j%256)=IntKind.i8.wrap j:=by
 simp only [IntKind.wrap,IntKind.bits,IntKind.signed];simp
theorem wc32 (j:Int):IntKind.i32.wrap (j%4294967296)=IntKind.i32.wrap j:=by
 simp only [IntKind.wrap,IntKind.bits,IntKind.signed];simp
theorem wc64 (j:Int):IntKind.i64.wrap (j%18446744073709551616)=IntKind.i64.wrap j:=by
 simp only [IntKind.wrap,IntKind.bits,IntKind.signed];simp
theorem jC (l:List UInt8):(kN l).length≤32767:=by simp [kN];omega
theorem kIP {n:Nat} (h:n≤32767):IntKind.i16.wrap ((n:Int)%65536)=n:=by
 simp only [IntKind.wrap,IntKind.bits,IntKind.signed];simp;split<;>omega
theorem kIQ {n:Nat} (h:n≤2147483647):IntKind.i32.wrap ((n:Int)%4294967296)=n:=by
 simp only [IntKind.wrap,IntKind.bits,IntKind.signed];simp;split<;>omega
theorem kJ6 {n:Nat} (h:n<4294967295) (r:List UInt8):rdCl (at_ (uvE (n+1)++r))=((n:Int),at_ r):=by
 unfold rdCl
 rw [y5 (by omega)]
 simp only [Prod.mk.injEq,and_true]
 omega
theorem kP1 (x:Bool) {s:List UInt8} (h:s.length≤32767) (r:List UInt8):(if x then jZ (at_ ((if x then uvE (s.length+1)++s else beI 2 s.length++s)++r)) else yO (at_ ((if x then uvE (s.length+1)++s else beI 2 s.length++s)++r)))=(s,at_ r):=by
 cases x with
 | true =>
   simp only [if_true,List.append_assoc]
   unfold jZ
   rw [kJ6 (by omega)]
   simp only [yX,Option.getD_some]
 | false =>
   simp only [Bool.false_eq_true,if_false,List.append_assoc]
   unfold yO
   obtain ⟨h1,h2⟩:=kBX 2 s.length (s++r)
   rw [pair_of rfl h2]
   simp only [h1]
   rw [show (256:Int)^2=65536 by decide,kIP h,yX]
   rfl
def valG (p:PK) (null:Bool) (t:TR):GV :=
 match p with
 | .bool=>.num (.bool (decide (t.n%2≠0)))
 | .i8=>.num (.int .i8 (IntKind.i8.wrap t.n))
 | .i16=>.num (.int .i16 (IntKind.i16.wrap t.n))
 | .i32=>.num (.int .i32 (IntKind.i32.wrap t.n))
 | .i64=>.num (.int .i64 (IntKind.i64.wrap t.n))
 | .u16=>.num (.int .u16 (t.n%65536))
 | .uuid=>.arr (vF t.s)
 | .str=>.num (str (kN t.s))
 | .nstr=>.nstr (if null then none else some (kN t.s))
 | _=>.byt (some (kN t.s))
structure ReadP (p:PK) (x:Bool) (l:List UInt8) (g:GV):Prop where
 rd :∀r,jM.prim p x (at_ (l++r))=(g,at_ r)
 pos:0<l.length
theorem intR {k:IntKind} {m:Nat} {n:Int} {p:PK} {x:Bool} {M:Int} (hM:(256:Int)^m=M) (hwc :∀j:Int,k.wrap (j%M)=k.wrap j) (hp :∀s,jM.prim p x s=(.num (.int k (k.wrap (rdN m s).1)),(rdN m s).2)) (hm:0<m):ReadP p x (beI m n) (.num (.int k (k.wrap n))):=by
 refine ⟨fun r=>?_,by rw [zL];exact hm⟩
 rw [hp]
 obtain ⟨h1,h2⟩:=kBX m n r
 rw [h1,h2,hM,hwc]
theorem readP {p:PK} {kind:Int} {nul null x:Bool} {part:TR→List UInt8} {t:TR} (hk:kindOk kind nul p=true) (hn:null=true→nul=true):ReadP p x (valP x kind part null t) (valG p null t):=by
 cases p with
 | bool =>
   simp only [kindOk,decide_eq_true_eq] at hk
   subst hk
   refine ⟨fun r=>?_,by simp [valP]⟩
   have h2:t.n%2=0∨t.n%2=1:=by omega
   rcases h2 with h2|h2<;>simp [valP,valG,jM,rdN,h2,beNat]
 | i8 =>
   simp only [kindOk,decide_eq_true_eq] at hk
   subst hk
   exact intR (k:=.i8) (m:=1) (n:=t.n) (M:=256) (by decide) wc8 (fun _=>rfl) (by omega)
 | i16 =>
   simp only [kindOk,decide_eq_true_eq] at hk
   subst hk
   exact intR (k:=.i16) (m:=2) (n:=t.n) (M:=65536) (by decide) wc16 (fun _=>rfl) (by omega)
 | i32 =>
   simp only [kindOk,decide_eq_true_eq] at hk
   subst hk
   exact intR (k:=.i32) (m:=4) (n:=t.n) (M:=4294967296) (by decide) wc32 (fun _=>rfl) (by omega)
 | i64 =>
   simp only [kindOk,decide_eq_true_eq] at hk
   subst hk
   exact intR (k:=.i64) (m:=8) (n:=t.n) (M:=18446744073709551616) (by decide) wc64 (fun _=>rfl) (by omega)
 | u16 =>
   simp only [kindOk,decide_eq_true_eq] at hk
   subst hk
   refine ⟨fun r=>?_,?_⟩
   ·obtain ⟨h1,h2⟩:=kBX 2 t.n r
    show (GV.num (.int .u16 (rdN 2 (at_ (beI 2 t.n++r))).1),(rdN 2 (at_ (beI 2 t.n++r))).2)=_
    rw [h1,h2];rfl
   ·show 0<(beI 2 t.n).length
    rw [zL];omega
 | uuid =>
   simp only [kindOk,decide_eq_true_eq] at hk
   subst hk
   have hl:(vF t.s).length=16:=by simp [vF];omega
   refine ⟨fun r=>?_,?_⟩
   ·have h:=yX (vF t.s) r
    rw [hl] at h
    show (GV.arr (wD (at_ (vF t.s++r))).1,(wD (at_ (vF t.s++r))).2)=_
    unfold wD
    rw [show ((16:Nat):Int)=16 from rfl] at h
    rw [h];rfl
   ·show 0<(vF t.s).length
    omega
 | str =>
   simp only [kindOk,Bool.and_eq_true,decide_eq_true_eq,Bool.not_eq_true'] at hk
   obtain ⟨rfl,hnul⟩:=hk
   have hnull:null=false:=by cases null<;>simp_all
   subst hnull
   have hw:=jC t.s
   have e:valP x 8 part false t=if x then uvE ((kN t.s).length+1)++kN t.s else beI 2 (kN t.s).length++kN t.s:=by
    simp [valP,zD];cases x<;>simp
   rw [e]
   refine ⟨fun r=>?_,?_⟩
   ·have h:=kP1 x hw r
    cases x with
    | true=>simp only [if_true] at h ⊢;show (GV.num (str (jZ _).1),(jZ _).2)=_;rw [h];rfl
    | false=>simp only [Bool.false_eq_true,if_false] at h ⊢;show (GV.num (str (yO _).1),(yO _).2)=_;rw [h];rfl
   ·have:=kBW ((kN t.s).length+1)
    cases x<;>simp [zL]<;>omega
 | nstr =>
   simp only [kindOk,decide_eq_true_eq] at hk
   subst hk
   cases null with
   | true =>
     have e:valP x 8 part true t=if x then [0] else beI 2 (-1):=by
      cases x<;>simp [valP,zD]
     rw [e]
     refine ⟨fun r=>?_,by cases x<;>simp [zL]⟩
     cases x with
     | true =>
       simp only [if_true]
       show (GV.nstr (kW _).1,(kW _).2)=_
       have h:rdCl (at_ ([0]++r))=(-1,at_ r):=by
        have:=y5 (n:=0) (by omega) r
        rw [kAN (by omega)] at this
        unfold rdCl
        rw [show ([0]:List UInt8)=[UInt8.ofNat 0] from rfl,this];rfl
       unfold kW
       rw [h];rfl
     | false =>
       simp only [Bool.false_eq_true,if_false]
       show (GV.nstr (kZ _).1,(kZ _).2)=_
       obtain ⟨h1,h2⟩:=kBX 2 (-1) r
       unfold kZ
       simp only [h1,h2]
       rfl
   | false =>
     have hw:=jC t.s
     have e:valP x 8 part false t=if x then uvE ((kN t.s).length+1)++kN t.s else beI 2 (kN t.s).length++kN t.s:=by
      simp [valP,zD];cases x<;>simp
     rw [e]
     refine ⟨fun r=>?_,?_⟩
     ·cases x with
      | true =>
        simp only [if_true,List.append_assoc]
        show (GV.nstr (kW _).1,(kW _).2)=_
        unfold kW
        rw [kJ6 (by omega)]
        simp only [yX,Option.getD_some]
        rw [if_neg (by omega)]
        rfl
      | false =>
        simp only [Bool.false_eq_true,if_false,List.append_assoc]
        show (GV.nstr (kZ _).1,(kZ _).2)=_
        obtain ⟨h1,h2⟩:=kBX 2 (kN t.s).length (kN t.s++r)
        unfold kZ
        simp only [h1,h2]
        rw [show (256:Int)^2=65536 by decide,kIP hw,if_neg (by omega),yX]
        rfl
     ·have:=kBW ((kN t.s).length+1)
      cases x<;>simp [zL]<;>omega
 | byt =>
   simp only [kindOk,Bool.and_eq_true,decide_eq_true_eq,Bool.not_eq_true'] at hk
   obtain ⟨rfl,hnul⟩:=hk
   have hnull:null=false:=by cases null<;>simp_all
   subst hnull
   have hw:=jC t.s
   have e:valP x 9 part false t=if x then uvE ((kN t.s).length+1)++kN t.s else beI 4 (kN t.s).length++kN t.s:=by
    simp [valP,zD];cases x<;>simp
   rw [e]
   refine ⟨fun r=>?_,?_⟩
   ·cases x with
    | true =>
      simp only [if_true,List.append_assoc]
      show (GV.byt (xJ _).1,(xJ _).2)=_
      unfold xJ
      rw [kJ6 (by omega)]
      simp only [yX]
      rw [if_neg (by omega)]
      rfl
    | false =>
      simp only [Bool.false_eq_true,if_false,List.append_assoc]
      show (GV.byt (wZ _).1,(wZ _).2)=_
      obtain ⟨h1,h2⟩:=kBX 4 (kN t.s).length (kN t.s++r)
      unfold wZ
      simp only [h1,h2]
      rw [show (256:Int)^4=4294967296 by decide,kIQ (by omega),if_neg (by omega),yX]
      rfl
   ·have:=kBW ((kN t.s).length+1)
    cases x<;>simp [zL]<;>omega
 | u32=>simp [kindOk] at hk
 | nbyt=>simp [kindOk] at hk
def unk (u:List (Nat×List UInt8)):List (Nat×List UInt8):=(u.take 32767).foldl (zS 0) []
def kCM (x:Bool) (u:List (Nat×List UInt8)):List UInt8:=if x then uvE (unk u).length++y7 (unk u) else []
theorem kDK :∀(fs:List FD),FD.zN fs=true→qN fs=0:=by
 intro fs h
 unfold qN
 induction fs with
 | nil=>rfl
 | cons f fs ih =>
   simp only [FD.zN,Bool.and_eq_true] at h
   have ht:f.tag<0:=by
    have:=h.1
    obtain ⟨k,a,b,c,tag,d,e,sub⟩:=f
    simp only [FD.plain,Bool.and_eq_true,decide_eq_true_eq] at this
    exact this.1
   simp only [List.foldl_cons]
   rw [if_neg (by omega)]
   exact ih h.2
theorem yY {fs:List FD} (h:FD.zN fs=true) (u:List (Nat×List UInt8)):kU fs u=unk u:=by
 unfold kU unk;rw [kDK fs h]
def Ris (l:List (Nat×List UInt8)):Prop:=l.Pairwise (fun a b=>a.1<b.1) ∧∀p∈l,p.1<4294967296
theorem kG0 {k:Nat} {b:List UInt8} :∀{l:List (Nat×List UInt8)} {p},p∈insU k b l→p=(k,b)∨p∈l
 | [],p,h=>by simp [insU] at h;exact .inl h
 | (k',b')::r,p,h=>by
   simp only [insU] at h
   split at h
   ·rcases List.mem_cons.1 h with h|h
    ·exact .inr (by simp [h])
    ·rcases kG0 h with h|h
     ·exact .inl h
     ·exact .inr (by simp [h])
   ·split at h
    ·exact .inr h
    ·rcases List.mem_cons.1 h with h|h
     ·exact .inl h
     ·exact .inr h
theorem kG1 {k:Nat} {b:List UInt8} (hk:k<4294967296) :∀{l:List (Nat×List UInt8)},Ris l→Ris (insU k b l)
 | [],_=>⟨by simp [insU],by simp [insU];exact hk⟩
 | (k',b')::r,h=>by
   have hr:Ris r:=⟨(List.pairwise_cons.1 h.1).2,fun p hp=>h.2 p (by simp [hp])⟩
   simp only [insU]
   split
   ·rename_i hlt
    have ih:=kG1 (b:=b) hk hr
    refine ⟨List.pairwise_cons.2 ⟨fun p hp=>?_,ih.1⟩,fun p hp=>?_⟩
    ·rcases kG0 hp with rfl|hp
     ·exact hlt
     ·exact (List.pairwise_cons.1 h.1).1 p hp
    ·rcases List.mem_cons.1 hp with rfl|hp
     ·exact h.2 (k',b') (by simp)
     ·exact ih.2 p hp
   ·split
    ·exact h
    ·rename_i h1 h2
     refine ⟨List.pairwise_cons.2 ⟨fun p hp=>?_,h.1⟩,fun p hp=>?_⟩
     ·rcases List.mem_cons.1 hp with rfl|hp
      ·show k<k';omega
      ·have:=(List.pairwise_cons.1 h.1).1 p hp
       show k<p.1
       have e:k'<p.1:=this
       omega
     ·rcases List.mem_cons.1 hp with rfl|hp
      ·exact hk
      ·exact h.2 p hp
theorem kG2 {k:Nat} {b:List UInt8} :∀l:List (Nat×List UInt8),(insU k b l).length≤l.length+1
 | []=>by simp [insU]
 | (k',b')::r=>by
   have:=kG2 (k:=k) (b:=b) r
   simp only [insU]
   split
   ·simp only [List.length_cons];omega
   ·split<;>simp
theorem kIR {u:List (Nat×List UInt8)} (h :∀p∈u,p.1<4294967296):Ris (unk u)∧(unk u).length≤32767:=by
 have gen :∀(v acc:List (Nat×List UInt8)),(∀p∈v,p.1<4294967296)→Ris acc→Ris (v.foldl (zS 0) acc)∧(v.foldl (zS 0) acc).length≤acc.length+v.length:=by
  intro v
  induction v with
  | nil=>intro acc _ ha;exact ⟨ha,by simp⟩
  | cons p v ih =>
    intro acc hv ha
    have e:zS 0 acc p=insU p.1 p.2 acc:=by unfold zS;rw [if_neg (by omega)]
    simp only [List.foldl_cons,e]
    obtain ⟨h1,h2⟩:=ih (insU p.1 p.2 acc) (fun q hq=>hv q (by simp [hq])) (kG1 (hv p (by simp)) ha)
    refine ⟨h1,Nat.le_trans h2 ?_⟩
    have:=kG2 (k:=p.1) (b:=p.2) acc
    simp only [List.length_cons];omega
 obtain ⟨h1,h2⟩:=gen (u.take 32767) [] (fun p hp=>h p (List.mem_of_mem_take hp)) ⟨by simp,by simp⟩
 refine ⟨h1,Nat.le_trans h2 ?_⟩
 simp;omega
def zT (u:List (Nat×List UInt8)):List (Nat×List UInt8):=u.map fun p=>(p.1,kN p.2)
theorem uK {k:Nat} {b:List UInt8} :∀{m:List (Nat×List UInt8)},(∀p∈m,p.1<k)→yI m k b=m++[(k,b)]
 | [],_=>rfl
 | (k',b')::m,h=>by
   have h1:k'<k:=h (k',b') (by simp)
   simp only [yI,List.cons_append]
   rw [if_neg (by omega),uK fun p hp=>h p (by simp [hp])]
theorem kFS :∀(u m:List (Nat×List UInt8)) (r:List UInt8),Ris u→(∀p∈m,∀q∈u,p.1<q.1)→kAL u.length m (at_ (y7 u++r))=(m++zT u,at_ r)
 | [],m,r,_,_=>by simp [kAL,y7,zT]
 | (k,b)::u,m,r,h,hm=>by
   have hk:k<4294967296:=h.2 (k,b) (by simp)
   have hr:Ris u:=⟨(List.pairwise_cons.1 h.1).2,fun p hp=>h.2 p (by simp [hp])⟩
   have hw:=jC b
   have e:y7 ((k,b)::u)++r=uvE k++(uvE (kN b).length++(kN b++(y7 u++r))):=by simp [y7]
   rw [e]
   simp only [List.length_cons,kAL]
   rw [y5 hk]
   simp only
   rw [y5 (by omega)]
   simp only [yX,Option.getD_some]
   rw [uK fun p hp=>hm p hp (k,b) (by simp)]
   rw [kFS u _ r hr ?_]
   ·simp [zT]
   ·intro p hp q hq
    rcases List.mem_append.1 hp with hp|hp
    ·exact hm p hp q (by simp [hq])
    ·simp only [List.mem_singleton] at hp;subst hp
     exact (List.pairwise_cons.1 h.1).1 q hq
theorem kET :∀{m:List (Nat×List UInt8)},m.Pairwise (fun a b=>a.1<b.1)→uF m=m
 | [],_=>rfl
 | (k,b)::m,h=>by
   have ih:=kET (List.pairwise_cons.1 h).2
   simp only [uF,ih]
   cases m with
   | nil=>rfl
   | cons p m =>
     have:k<p.1:=(List.pairwise_cons.1 h).1 p (by simp)
     simp only [insT]
     rw [if_pos this]
theorem tags_rd {u:List (Nat×List UInt8)} (h :∀p∈u,p.1<4294967296) (r:List UInt8):uD (at_ (kCM true u++r))=(zT (unk u),at_ r):=by
 obtain ⟨h1,h2⟩:=kIR h
 simp only [kCM,if_true,List.append_assoc]
 unfold uD
 rw [y5 (by omega)]
 simp only
 rw [kFS _ [] r h1 (by simp)]
 simp
theorem kNQ {el:RS→Option (GV×RS)} {f:TR→List UInt8} {val:TR→GV} :∀ys:List TR,(∀y∈ys,∀r,el (at_ (f y++r))=some (val y,at_ r)) →∀r,xZ el ys.length (at_ (ys.flatMap f++r))=some (ys.map val,at_ r)
 | [],_,r=>rfl
 | y::ys,h,r=>by
   have h1:=h y (by simp)
   have k1:=kNQ ys fun z hz=>h z (by simp [hz])
   simp only [List.flatMap_cons,List.length_cons,xZ,List.append_assoc,h1,k1,List.map_cons]
theorem kK2 {f:TR→List UInt8} :∀{ys:List TR},(∀y∈ys,0<(f y).length)→ys.length≤(ys.flatMap f).length
 | [],_=>by simp
 | y::ys,h=>by
   have h1:=h y (by simp)
   have h2:=kK2 (ys:=ys) fun z hz=>h z (by simp [hz])
   simp only [List.flatMap_cons,List.length_cons,List.length_append]
   omega
def lstG (sz:Nat) (val:TR→GV) (ys:List TR):GV:=.lst (decide ((ys.length:Int)≤0)) (if (ys.length:Int)≤0 then 0 else sz) (ys.map val)
theorem len_rd {x:Bool} {n:Nat} (hl:n≤32767) {l:List UInt8} (hn:n≤l.length):jM.len x (at_ (zD x false n 4++l))=((n:Int),at_ l):=by
 cases x with
 | true =>
   simp only [jM,if_true,zD,Bool.false_eq_true,if_false]
   unfold jA
   rw [y5 (by omega)]
   have e:IntKind.i32.wrap (IntKind.i32.wrap ((n+1:Nat):Int)-1)=(n:Int):=by
    simp only [IntKind.wrap,IntKind.bits,IntKind.signed];simp;omega
   simp only [e]
   rw [if_neg (by omega)]
 | false =>
   simp only [jM,Bool.false_eq_true,if_false,zD]
   unfold yP
   obtain ⟨h1,h2⟩:=kBX 4 n l
   simp only [h1,h2]
   rw [show (256:Int)^4=4294967296 by decide,kIQ (by omega)]
   rw [if_neg (by omega)]
theorem kQT {x:Bool} {lb:LB} (hlb:lb.nul=none) {ver:Int} {sz:Nat} {el:RS→Option (GV×RS)} {f:TR→List UInt8} {val:TR→GV} {ys:List TR} (hl:ys.length≤32767) (hpos :∀y∈ys,0<(f y).length)
  (h :∀y∈ys,∀r,el (at_ (f y++r))=some (val y,at_ r)) (r:List UInt8):kAJ jM x lb ver sz el (at_ (zD x false ys.length 4++ys.flatMap f++r))=some (lstG sz val ys,at_ r):=by
 have hn:=kK2 hpos
 unfold kAJ lstG
 rw [List.append_assoc,len_rd hl (by simp only [List.length_append];omega)]
 simp only [Bool.false_eq_true,if_false,Int.toNat_natCast,kNQ ys h r,LB.kO8 hlb,decide_eq_true_eq]
def FD.nulB (f:FD) (ver:Int):Bool:=decide (f.null≥0)&&decide (ver≥f.null)
def neB (ver:Int) (x:Bool) (fds:List FD):Bool:=x||fds.any fun f=>decide (f.tag<0)&&(f.hasV ver&&!decide (f.kind=10))
theorem FD.kBY (ver:Int) (x:Bool) (f:FD) (t:TR):f.enc ver x t=xY x f.kind f.of f.null (f.jR ver t) (fun y=>vM x (zI ver x f.sub 0 y) (kU f.sub y.u)) t:=by
 obtain ⟨k,a,b,c,tag,d,e,sub⟩:=f;rfl
theorem kBZ {decF:RS→Option (GV×RS)} {restD:RS→Option (List GV×RS)} {l1 l2:List UInt8} {g:GV} {gs:List GV} (h1 :∀r,decF (at_ (l1++r))=some (g,at_ r)) (h2 :∀r,restD (at_ (l2++r))=some (gs,at_ r)) :
  ∀r,kCT (decF (at_ ((l1++l2)++r))) restD=some (g::gs,at_ r):=by
 intro r
 rw [List.append_assoc,h1]
 simp only [kCT,h2]
def fE (ver:Int) (x:Bool) (f:FD) (t:TR) (i:Nat):List UInt8:=if f.hasV ver=true then f.enc ver x (t.at i) else []
theorem vH {ver:Int} {x:Bool} {f:FD} {fs:List FD} {i:Nat} {t:TR} {z:List UInt8} (ht:f.tag<0):zI ver x (f::fs) i t++z=fE ver x f t i++(zI ver x fs (i+1) t++z):=by
 simp only [zI,fE,ht,true_and,List.append_assoc]
theorem kDT {ver:Int} {x:Bool} {sub:List FD} {y:TR} (hp:FD.zN sub=true):vM x (zI ver x sub 0 y) (kU sub y.u)=zI ver x sub 0 y++kCM x y.u:=by
 rw [yY hp];rfl
theorem TR.kEU {t y:TR} (h:t.kok) (hy:y∈t.l):y.kok:=by
 cases t with
 | mk n s b l u=>exact TR.kDS h.2 y hy
theorem kL7 (k:Int):0<zJ k:=by
 unfold zJ;repeat' split
 all_goals omega
theorem kAW (x nl:Bool) (n k:Nat) (hk:0<k):0<(zD x nl n k).length:=by
 have:=kBW (n+1)
 unfold zD
 cases x<;>cases nl<;>simp [zL]<;>omega
theorem kP2 (x:Bool) (k:Int) (part:TR→List UInt8) (nl:Bool) (t:TR) (h:k≠10):0<(valP x k part nl t).length:=by
 unfold valP
 by_cases h0:k=0
 ·rw [if_pos h0];simp
 rw [if_neg h0]
 by_cases h7:k=7
 ·rw [if_pos h7];simp [vF];omega
 rw [if_neg h7]
 by_cases h8:k=8
 ·rw [if_pos h8,List.length_append];have:=kAW x nl (if nl=true then [] else kN t.s).length 2 (by omega);omega
 rw [if_neg h8]
 by_cases h9:k=9
 ·rw [if_pos h9,List.length_append];have:=kAW x nl (if nl=true then [] else kN t.s).length 4 (by omega);omega
 rw [if_neg h9,if_neg h,zL]
 exact kL7 k
theorem enc_pos {ver:Int} {x:Bool} {f:FD} {t:TR} (h:f.kind≠10):0<(f.enc ver x t).length:=by
 rw [FD.kBY]
 unfold xY
 by_cases h11:f.kind=11
 ·rw [if_pos h11,List.length_append]
  have:=kAW x (f.jR ver t) (if f.jR ver t=true then [] else t.l.take 32767).length 4 (by omega)
  omega
 ·rw [if_neg h11,if_neg (by simp [h])]
  exact kP2 x _ _ _ _ h
theorem kK3 {ver:Int} {x:Bool} :∀{fds:List FD} {i:Nat} {t:TR},neB ver x fds=true→0<(zI ver x fds i t++kCM x t.u).length:=by
 intro fds i t h
 cases x with
 | true=>simp only [kCM,if_true,List.length_append];have:=kBW (unk t.u).length;omega
 | false =>
   simp only [neB,Bool.false_or] at h
   induction fds generalizing i with
   | nil=>simp at h
   | cons f fs ih =>
     simp only [List.any_cons,Bool.or_eq_true] at h
     simp only [zI,List.length_append]
     rcases h with h|h
     ·simp only [Bool.and_eq_true,decide_eq_true_eq,Bool.not_eq_true',decide_eq_false_iff_not] at h
      rw [if_pos ⟨h.1,h.2.1⟩]
      have:=enc_pos (ver:=ver) (x:=false) (t:=t.at i) h.2.2
      omega
     ·have:=ih (i:=i+1) h
      simp only [List.length_append] at this
      omega
theorem kNR {ver:Int} {x:Bool} {f:FD} {t:TR} (h:f.kind=11) (hn:f.nulB ver=false) :
  f.enc ver x t=zD x false (t.l.take 32767).length 4++(t.l.take 32767).flatMap (valP x f.of (fun y=>vM x (zI ver x f.sub 0 y) (kU f.sub y.u)) false):=by
 have hnv:f.jR ver t=false:=by
  simp only [FD.nulB] at hn
  simp only [FD.jR,hn,Bool.and_false]
 rw [FD.kBY]
 unfold xY
 rw [if_pos h,hnv]
 simp only [Bool.false_eq_true,if_false]
theorem kB4 (l:List TR):(l.take 32767).length≤32767:=by simp;omega
def Sc.rvB (ver:Int) (x:Bool):Sc→List FD→Bool
 | .nil,fds=>fds.isEmpty&&!x
 | .tags _,fds=>fds.isEmpty
 | .prm vc _ _ p _ rest,fds=>match fds with
   | f::fs=>decide (f.tag<0)&&(vc.holds ver==f.hasV ver)&&(!f.hasV ver||kindOk f.kind (f.nulB ver) p)&&rest.rvB ver x fs
   | []=>false
 | .enm vc _ _ p _ rest,fds=>match fds with
   | f::fs=>decide (f.tag<0)&&(vc.holds ver==f.hasV ver)&&(!f.hasV ver||kindOk f.kind (f.nulB ver) p)&&rest.rvB ver x fs
   | []=>false
 | .vst _ _ _ _ _,_=>false
 | .uid vc _ rest,fds=>match fds with
   | f::fs=>decide (f.tag<0)&&(vc.holds ver==f.hasV ver)&&(!f.hasV ver||decide (f.kind=7))&&rest.rvB ver x fs
   | []=>false
 | .lsp vc _ lb _ _ _ p rest,fds=>match fds with
   | f::fs=>decide (f.tag<0)&&(vc.holds ver==f.hasV ver)&&(!f.hasV ver||(lb.nul.isNone&&decide (f.kind=11)&&kindOk f.of false p&&!f.nulB ver))&&rest.rvB ver x fs
   | []=>false
 | .lss vc _ lb _ _ body rest,fds=>match fds with
   | f::fs=>decide (f.tag<0)&&(vc.holds ver==f.hasV ver)&&(!f.hasV ver||(lb.nul.isNone&&decide (f.kind=11)&&decide (f.of=10)&&!f.nulB ver&&neB ver x f.sub&&FD.zN f.sub&&body.rvB ver x f.sub))&&rest.rvB ver x fs
   | []=>false
 | .sub vc _ body rest,fds=>match fds with
   | f::fs=>decide (f.tag<0)&&(vc.holds ver==f.hasV ver)&&(!f.hasV ver||(decide (f.kind=10)&&decide (f.null<0)&&FD.zN f.sub&&body.rvB ver x f.sub))&&rest.rvB ver x fs
   | []=>false
def Sc.vals (ver:Int) (x:Bool):Sc→List FD→Nat→TR→List GV
 | .nil,_,_,_=>[]
 | .tags _,_,_,t=>[.tag (if x then zT (unk t.u) else [])]
 | .prm _ _ _ p d rest,fds,i,t=>match fds with
   | f::fs=>(if f.hasV ver=true then valG p (f.jR ver (t.at i)) (t.at i) else d.gv)::rest.vals ver x fs (i+1) t
   | []=>[]
 | .enm _ _ _ p d rest,fds,i,t=>match fds with
   | f::fs=>(if f.hasV ver=true then valG p (f.jR ver (t.at i)) (t.at i) else d.gv)::rest.vals ver x fs (i+1) t
   | []=>[]
 | .vst _ _ _ _ _,_,_,_=>[]
 | .uid _ _ rest,fds,i,t=>match fds with
   | f::fs=>(if f.hasV ver=true then .arr (vF (t.at i).s) else .arr (List.replicate 16 0))::rest.vals ver x fs (i+1) t
   | []=>[]
 | .lsp _ _ _ d _ _ p rest,fds,i,t=>match fds with
   | f::fs=>(if f.hasV ver=true then lstG d.size (valG p false) ((t.at i).l.take 32767) else .lst true 0 [])::rest.vals ver x fs (i+1) t
   | []=>[]
 | .lss _ _ _ _ _ body rest,fds,i,t=>match fds with
   | f::fs=>(if f.hasV ver=true then lstG body.size (fun y=>.rcd (body.vals ver x f.sub 0 y)) ((t.at i).l.take 32767) else .lst true 0 [])::rest.vals ver x fs (i+1) t
   | []=>[]
 | .sub _ _ body rest,fds,i,t=>match fds with
   | f::fs=>(if f.hasV ver=true then .rcd (body.vals ver x f.sub 0 (t.at i)) else .rcd body.dgv)::rest.vals ver x fs (i+1) t
   | []=>[]
theorem kNS {ver:Int} {x:Bool} {f:FD} {t:TR} {i:Nat} {p:PK} {d:Df} (hh:(!f.hasV ver||kindOk f.kind (f.nulB ver) p)=true) (r:List UInt8) :
  (if f.hasV ver=true then some (jM.prim p x (at_ (fE ver x f t i++r))) else some (d.gv,at_ (fE ver x f t i++r)))=some (if f.hasV ver=true then valG p (f.jR ver (t.at i)) (t.at i) else d.gv,at_ r):=by
 by_cases hv:f.hasV ver=true
 ·rw [hv] at hh
  have hk:kindOk f.kind (f.nulB ver) p=true:=by simpa using hh
  have hf:f.enc ver x (t.at i)=valP x f.kind (fun y=>vM x (zI ver x f.sub 0 y) (kU f.sub y.u)) (f.jR ver (t.at i)) (t.at i):=by
   rw [FD.kBY]
   have h11:f.kind≠11:=by cases p<;>simp [kindOk] at hk<;>omega
   have h10:f.kind≠10:=by cases p<;>simp [kindOk] at hk<;>omega
   unfold xY
   rw [if_neg h11,if_neg (by simp [h10])]
  have hb:=readP (x:=x) (part:=fun y=>vM x (zI ver x f.sub 0 y) (kU f.sub y.u)) (null:=f.jR ver (t.at i)) (t:=t.at i) hk (by
   intro hn
   simp only [FD.jR,FD.nulB,Bool.and_eq_true] at hn ⊢
   exact hn.2)
  rw [if_pos hv,if_pos hv]
  unfold fE
  rw [if_pos hv,hf,hb.rd]
 ·rw [if_neg hv,if_neg hv];simp [fE,hv]
theorem Sc.rv {ver:Int} {x:Bool} :∀(sc:Sc) (fds:List FD) (i:Nat) (t:TR),sc.rvB ver x fds=true→t.kok →∀r,sc.dec jM ver x (at_ (zI ver x fds i t++kCM x t.u++r))=some (sc.vals ver x fds i t,at_ r):=by
 intro sc
 induction sc with
 | nil =>
   intro fds i t h hk r
   cases fds<;>simp [Sc.rvB] at h
   subst h
   rfl
 | tags f =>
   intro fds i t h hk r
   cases fds<;>simp [Sc.rvB] at h
   have hku :∀p∈t.u,p.1<4294967296:=by cases t;exact hk.1
   cases x with
   | true =>
     simp only [Sc.dec,Sc.vals,if_true,zI,List.nil_append]
     show some ([GV.tag (uD _).1],(uD _).2)=_
     rw [tags_rd hku]
   | false=>rfl
 | prm vc init rr p d rest ih =>
   intro fds i t h hk r
   cases fds with
   | nil=>simp [Sc.rvB] at h
   | cons f fs =>
     simp only [Sc.rvB,Bool.and_eq_true,decide_eq_true_eq,beq_iff_eq] at h
     obtain ⟨⟨⟨htag,hv⟩,hfld⟩,hrest⟩:=h
     rw [vH htag]
     simp only [Sc.dec,Sc.vals,hv]
     exact kBZ (decF:=fun s=>if f.hasV ver=true then some (jM.prim p x s) else some (d.gv,s)) (fun r=>kNS hfld r) (ih fs (i+1) t hrest hk) r
 | enm vc init rr p d rest ih =>
   intro fds i t h hk r
   cases fds with
   | nil=>simp [Sc.rvB] at h
   | cons f fs =>
     simp only [Sc.rvB,Bool.and_eq_true,decide_eq_true_eq,beq_iff_eq] at h
     obtain ⟨⟨⟨htag,hv⟩,hfld⟩,hrest⟩:=h
     rw [vH htag]
     simp only [Sc.dec,Sc.vals,hv]
     exact kBZ (decF:=fun s=>if f.hasV ver=true then some (jM.prim p x s) else some (d.gv,s)) (fun r=>kNS hfld r) (ih fs (i+1) t hrest hk) r
 | vst _ _ _ _ rest ih=>intro fds i t h;simp [Sc.rvB] at h
 | uid vc ff rest ih =>
   intro fds i t h hk r
   cases fds with
   | nil=>simp [Sc.rvB] at h
   | cons f fs =>
     simp only [Sc.rvB,Bool.and_eq_true,decide_eq_true_eq,beq_iff_eq] at h
     obtain ⟨⟨⟨htag,hv⟩,hfld⟩,hrest⟩:=h
     rw [vH htag]
     simp only [Sc.dec,Sc.vals,hv]
     refine kBZ (decF:=fun s=>if f.hasV ver=true then some (jM.prim .uuid x s) else some (.arr (List.replicate 16 0),s)) (fun r=>?_) (ih fs (i+1) t hrest hk) r
     by_cases hh:f.hasV ver=true
     ·rw [hh] at hfld
      have hk7:f.kind=7:=by simpa using hfld
      have hf:f.enc ver x (t.at i)=valP x 7 (fun y=>vM x (zI ver x f.sub 0 y) (kU f.sub y.u)) (f.jR ver (t.at i)) (t.at i):=by
       rw [FD.kBY]
       unfold xY
       rw [if_neg (by omega),if_neg (by omega),hk7]
      have hb:=readP (x:=x) (p:=.uuid) (kind:=7) (nul:=true) (null:=f.jR ver (t.at i)) (part:=fun y=>vM x (zI ver x f.sub 0 y) (kU f.sub y.u)) (t:=t.at i) rfl (fun _=>rfl)
      rw [if_pos hh,if_pos hh]
      unfold fE
      rw [if_pos hh,hf,hb.rd]
      rfl
     ·rw [if_neg hh,if_neg hh];simp [fE,hh]
 | lsp vc ln bytes d init rr p rest ih =>
   intro fds i t h hk r
   cases fds with
   | nil=>simp [Sc.rvB] at h
   | cons f fs =>
     simp only [Sc.rvB,Bool.and_eq_true,decide_eq_true_eq,beq_iff_eq] at h
     obtain ⟨⟨⟨htag,hv⟩,hfld⟩,hrest⟩:=h
     rw [vH htag]
     simp only [Sc.dec,Sc.vals,hv]
     refine kBZ (decF:=fun s=>if f.hasV ver=true then kAJ jM x bytes ver d.size (fun s=>some (jM.prim p x s)) s else some (.lst true 0 [],s)) (fun r=>?_) (ih fs (i+1) t hrest hk) r
     by_cases hh:f.hasV ver=true
     ·rw [hh] at hfld
      simp only [Bool.not_true,Bool.false_or,Bool.and_eq_true,decide_eq_true_eq,Bool.not_eq_true'] at hfld
      obtain ⟨⟨⟨hlb,hkind⟩,hof⟩,hn⟩:=hfld
      rw [if_pos hh,if_pos hh]
      unfold fE
      rw [if_pos hh,kNR hkind hn]
      have hb:=fun y:TR=>readP (x:=x) (part:=fun y=>vM x (zI ver x f.sub 0 y) (kU f.sub y.u)) (null:=false) (t:=y) hof (by simp)
      exact kQT (Option.isNone_iff_eq_none.1 hlb) (f:=valP x f.of (fun y=>vM x (zI ver x f.sub 0 y) (kU f.sub y.u)) false) (val:=valG p false) (kB4 _) (fun y _=>(hb y).pos) (fun y _ r=>by rw [(hb y).rd]) r
     ·rw [if_neg hh,if_neg hh];simp [fE,hh]
 | lss vc ln bytes z dfl body rest ihb ih =>
   intro fds i t h hk r
   cases fds with
   | nil=>simp [Sc.rvB] at h
   | cons f fs =>
     simp only [Sc.rvB,Bool.and_eq_true,decide_eq_true_eq,beq_iff_eq] at h
     obtain ⟨⟨⟨htag,hv⟩,hfld⟩,hrest⟩:=h
     rw [vH htag]
     simp only [Sc.dec,Sc.vals,hv]
     refine kBZ (decF:=fun s=>if f.hasV ver=true then kAJ jM x bytes ver body.size (fun s=>rcdD (body.dec jM ver x s)) s else some (.lst true 0 [],s)) (fun r=>?_) (ih fs (i+1) t hrest hk) r
     by_cases hh:f.hasV ver=true
     ·rw [hh] at hfld
      simp only [Bool.not_true,Bool.false_or,Bool.and_eq_true,decide_eq_true_eq,Bool.not_eq_true'] at hfld
      obtain ⟨⟨⟨⟨⟨⟨hlb,hkind⟩,hof⟩,hn⟩,hne⟩,hpl⟩,hbody⟩:=hfld
      rw [if_pos hh,if_pos hh]
      unfold fE
      rw [if_pos hh,kNR hkind hn]
      have hval :∀y,valP x f.of (fun y=>vM x (zI ver x f.sub 0 y) (kU f.sub y.u)) false y=zI ver x f.sub 0 y++kCM x y.u:=fun y=>by
       rw [hof]
       show vM x (zI ver x f.sub 0 y) (kU f.sub y.u)=_
       exact kDT hpl
      refine kQT (Option.isNone_iff_eq_none.1 hlb) (f:=valP x f.of (fun y=>vM x (zI ver x f.sub 0 y) (kU f.sub y.u)) false) (val:=fun y=>.rcd (body.vals ver x f.sub 0 y)) (kB4 _) (fun y _=>by rw [hval];exact kK3 hne) (fun y hy r=>?_) r
      rw [hval,ihb f.sub 0 y hbody (TR.kEU (hk.at i) (List.mem_of_mem_take hy))]
      rfl
     ·rw [if_neg hh,if_neg hh];simp [fE,hh]
 | sub vc dfl body rest ihb ih =>
   intro fds i t h hk r
   cases fds with
   | nil=>simp [Sc.rvB] at h
   | cons f fs =>
     simp only [Sc.rvB,Bool.and_eq_true,decide_eq_true_eq,beq_iff_eq] at h
     obtain ⟨⟨⟨htag,hv⟩,hfld⟩,hrest⟩:=h
     rw [vH htag]
     simp only [Sc.dec,Sc.vals,hv]
     refine kBZ (decF:=fun s=>if f.hasV ver=true then rcdD (body.dec jM ver x s) else some (.rcd body.dgv,s)) (fun r=>?_) (ih fs (i+1) t hrest hk) r
     by_cases hh:f.hasV ver=true
     ·rw [hh] at hfld
      simp only [Bool.not_true,Bool.false_or,Bool.and_eq_true,decide_eq_true_eq] at hfld
      obtain ⟨⟨⟨hkind,hnl⟩,hpl⟩,hbody⟩:=hfld
      rw [if_pos hh,if_pos hh]
      have hf:f.enc ver x (t.at i)=zI ver x f.sub 0 (t.at i)++kCM x (t.at i).u:=by
       rw [FD.kBY]
       unfold xY
       rw [if_neg (by omega),if_neg (by omega),hkind]
       show vM x (zI ver x f.sub 0 (t.at i)) (kU f.sub (t.at i).u)=_
       exact kDT hpl
      unfold fE
      rw [if_pos hh,hf,ihb f.sub 0 (t.at i) hbody (hk.at i)]
      rfl
     ·rw [if_neg hh,if_neg hh];simp [fE,hh]
def nulOk (nul:Bool) (lb:LB) (f:FD) (ver:Int):Bool:=if nul then (match lb.nul with
 | some V=>decide (V≤ver)
 | none=>false) else !f.nulB ver
def PK.eqB (p q:PK):Bool:=decide (p=q)
def Sc.rtB (ver:Int) (x:Bool):Sc→List FD→Ap→Bool
 | .nil,fds,ap=>match fds,ap with
   | [],.nil=>!x
   | _,_=>false
 | .tags _,fds,ap=>match fds,ap with
   | [],.tags _ _ _=>true
   | _,_=>false
 | .prm vc _ _ p d rest,fds,ap=>match fds,ap with
   | f::fs,.prm vc' _ p' _ rest'=>decide (f.tag<0)&&(vc.holds ver==f.hasV ver)&&(vc'.holds ver==f.hasV ver)&&decide (d.size=1)&&(!f.hasV ver||(kindOk f.kind (f.nulB ver) p&&p.eqB p'&&!p.eqB .uuid))&&rest.rtB ver x fs rest'
   | _,_=>false
 | .enm vc _ _ p d rest,fds,ap=>match fds,ap with
   | f::fs,.prm vc' _ p' _ rest'=>decide (f.tag<0)&&(vc.holds ver==f.hasV ver)&&(vc'.holds ver==f.hasV ver)&&decide (d.size=1)&&(!f.hasV ver||(kindOk f.kind (f.nulB ver) p&&p.eqB p'&&!p.eqB .uuid))&&rest.rtB ver x fs rest'
   | _,_=>false
 | .vst vc V _ _ rest,fds,ap=>match fds,ap with
   | f::fs,.vst vc' V' _ _ rest'=>decide (f.tag<0)&&(vc.holds ver==f.hasV ver)&&(vc'.holds ver==f.hasV ver)&&(!f.hasV ver||(decide (f.kind=8)&&decide (V=V')&&(!decide (ver<V)||!f.nulB ver)))&&rest.rtB ver x fs rest'
   | _,_=>false
 | .uid vc _ rest,fds,ap=>match fds,ap with
   | f::fs,.uid vc' _ rest'=>decide (f.tag<0)&&(vc.holds ver==f.hasV ver)&&(vc'.holds ver==f.hasV ver)&&(!f.hasV ver||decide (f.kind=7))&&rest.rtB ver x fs rest'
   | _,_=>false
 | .lsp vc _ lb d _ _ p rest,fds,ap=>match fds,ap with
   | f::fs,.lsp vc' nul _ p' _ rest'=>decide (f.tag<0)&&(vc.holds ver==f.hasV ver)&&(vc'.holds ver==f.hasV ver)&&(!f.hasV ver||(decide (f.kind=11)&&kindOk f.of false p&&p.eqB p'&&!p.eqB .uuid&&decide (d.size=1)&&nulOk nul lb f ver))&&rest.rtB ver x fs rest'
   | _,_=>false
 | .lss vc _ lb _ _ body rest,fds,ap=>match fds,ap with
   | f::fs,.lss vc' nul _ sz body' rest'=>decide (f.tag<0)&&(vc.holds ver==f.hasV ver)&&(vc'.holds ver==f.hasV ver)&&(!f.hasV ver||(decide (f.kind=11)&&decide (f.of=10)&&decide (body.size=sz)&&nulOk nul lb f ver&&neB ver x f.sub&&FD.zN f.sub&&body.rtB ver x f.sub body'))&&rest.rtB ver x fs rest'
   | _,_=>false
 | .sub vc _ body rest,fds,ap=>match fds,ap with
   | f::fs,.sub vc' sz body' rest'=>decide (f.tag<0)&&(vc.holds ver==f.hasV ver)&&(vc'.holds ver==f.hasV ver)&&decide (body.size=sz)&&(!f.hasV ver||(decide (f.kind=10)&&decide (f.null<0)&&FD.zN f.sub&&body.rtB ver x f.sub body'))&&rest.rtB ver x fs rest'
   | _,_=>false
end Go.Msk
