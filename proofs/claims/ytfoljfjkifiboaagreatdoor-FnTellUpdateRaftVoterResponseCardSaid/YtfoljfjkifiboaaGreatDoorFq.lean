/- A small language of resolved operations, and what the generic and the generated functions do in it (part 17). -/
import Derived.Test.YtfoljfjkifiboaaGreatDoorFp
namespace Go.Msk
open Go.RowKit
set_option maxRecDepth 100000
section
variable {P:Program} {F:Nat→Nat}
attribute [local simp] gOk updo upd ev RK.val? kL kM Addr.kK qE Value.cells undef
theorem kN7 {w0 w:World} {fb tb gb ob j n c n2 c2:Nat} {ver:Int} {flex nl may:Bool} {fcs tcs ocs xs ys:List Value} {gc0 gc1 gc2 gc4:Value} {one:FD} {x y:TR} {a a2:Addr} {σ:Sl} {Q:Exit→Sl→World→Prop}
  (hS:ToS w0 fb tb gb ver flex nl may fcs tcs [gc0,gc1,gc2,.slice (some a2) n2 c2,gc4] σ) (hm0:Mod [] w0 w) (hob:Blk w ob ocs) (hro:RepF anyB w one ocs) (h14:σ 14=.slice (some a) n c) (h15:σ 15=.pointer (some ⟨ob,0,none⟩)) (h16:σ 16=.int .i64 (j:Nat)) (hj:j<n) (hj2:j<n2)
  (hcell:kV w (a.add (j*5)) 0 5=some xs) (hcell2:kV w (a2.add (j*5)) 0 5=some ys) (hx:RepT anyB w x xs) (hy:RepT anyB w y ys) (hT:kBI P F ver flex one) (htd:one.kAZ ver flex x y)
  (hQ :∀σ' w',(∀s,s<101→σ' s=σ s)→σ' 114=.bool false→Mod [] w w'→Q .normal σ' w'):wpC P (ir_stold__2 F) Q σ w:=by
 unfold ir_stold__2
 show wpD P _ [] _ w.drew _
 have hmd:Mod [] w w.drew:=Mod.drew _ _
 have hob':=hob.mod hmd (by simp)
 have hld:=kJ hob'.cells hro.eight
 have c9:=fun k=>(hS.bg.mod (hm0.trans hmd) (by simp)).cell k
 have hc1:=qA hmd.below _ _ _ hcell
 have hc2:=qA hmd.below _ _ _ hcell2
 have e1:=hS.s1
 have e2:=hS.s2
 have e9:=hS.s9
 refine zM (fun i v w'=>match i with|12=>v=.bool true|_=>True) (by
  intro i v w w' h hm
  split at h
  ·exact h
  ·trivial) ?_
 refine bo1 (v:=.agg ocs.toArray) rfl (by simp [h15,hld]) ?_
 refine bo1 (v:=.int .i64 ver) rfl (by simp [e1]) ?_
 refine bo1 (v:=.bool flex) rfl (by simp [e2]) ?_
 refine bo1 (v:=.slice (some a) n c) rfl (by simp [h14]) ?_
 refine bo1 (v:=.int .i64 (j:Nat)) rfl (by simp [h16]) ?_
 refine bo1 (v:=.pointer (some (a.add (j*5)))) rfl (by simp [hj]) ?_
 refine bo1 (v:=.agg xs.toArray) rfl (by simp [hc1]) ?_
 refine bo1 (v:=.pointer (some ⟨gb,3,none⟩)) rfl (by simp [e9]) ?_
 refine bo1 (v:=.slice (some a2) n2 c2) rfl (by simp [c9]) ?_
 refine bo1 (v:=.int .i64 (j:Nat)) rfl (by simp [h16]) ?_
 refine bo1 (v:=.pointer (some (a2.add (j*5)))) rfl (by simp [hj2]) ?_
 refine bo1 (v:=.agg ys.toArray) rfl (by simp [hc2]) ?_
 refine jB (vs:=[.agg ocs.toArray,.int .i64 ver,.bool flex,.agg xs.toArray,.agg ys.toArray]) rfl (by simp) (fun w' hm' _=>(hT w' ocs x xs y ys (hro.keep (hmd.trans hm')) (hx.keep (hmd.trans hm')) (hy.keep (hmd.trans hm')) htd).mono ?_) ?_
 ·rintro e w'' ⟨rfl,hm2⟩
  exact ⟨_,rfl,hm2,rfl⟩
 rintro v ⟨wv,ev'⟩
 have ev':v=.bool true:=ev'
 subst ev'
 refine bo1 (v:=.bool false) rfl (by simp) ?_
 intro w' hm' hkn
 refine kP (hQ _ w' (fun s hs=>?_) (by simp) (hmd.trans hm'))
 simp only [updo,upd]
 repeat rw [if_neg (by omega)]
theorem kN8 (hm:P.follows .mixedOrders=true) (hth:kH P (F uQ)=some (ir_sThings F)) {w0 w:World} {fb tb gb:Nat} {ver:Int} {flex nl may:Bool} {kind frm to null tag dfl of:Int} {sub:List FD} {sv tsv lv uv gsv glv guv:Value} {css tss gss:List (List Value)} {tn gn:Int} {tb' gb':Bool} {l gl:List TR} {σ:Sl} {Q:Exit→Sl→World→Prop}
  (hS:ToS w0 fb tb gb ver flex nl may [.int .i64 kind,.int .i64 frm,.int .i64 to,.int .i64 null,.int .i64 tag,.int .i64 dfl,.int .i64 of,sv] [.int .i64 tn,tsv,.bool tb',lv,uv] [.int .i64 gn,gsv,.bool gb',glv,guv] σ) (hm0:Mod [] w0 w)
  (hsv:SlC anyB w0 sv sub.length css.flatten) (hr:jU anyB w0 sub css) (hlv:SlC anyB w0 lv l.length tss.flatten) (hl:jN anyB w0 l tss) (hgv:SlC anyB w0 glv gl.length gss.flatten) (hg:jN anyB w0 gl gss)
  (hT:kBI P F ver flex (.mk of frm to (-1) (-1) dfl of sub)) (hlen:gl.length=(l.take 32767).length) (htd :∀(i:Nat) (y h:TR),(l.take 32767)[i]?=some y→gl[i]?=some h→(FD.mk of frm to (-1) (-1) dfl of sub).kAZ ver flex y h)
  (hQ :∀σ' w',σ' 10=.bool true→Mod [] w0 w'→Q .ret σ' w'):wpC P (ir_stold__4 F) Q σ w:=by
 unfold ir_stold__4
 have c8:=fun k=>(hS.bt.mod hm0 (by simp)).cell k
 have c9:=fun k=>(hS.bg.mod hm0 (by simp)).cell k
 have e8:=hS.s8
 have e9:=hS.s9
 rw [wpC_seq,kD]
 refine go1 (v:=.pointer (some ⟨tb,3,none⟩)) rfl (by simp [e8]) ?_
 refine go1 (v:=lv) rfl (by simp [c8]) ?_
 refine qF rfl (vs:=[lv]) (by simp) (kEM hm hth (hlv.keep hm0) (hl.keep hm0)) ?_
 rintro e w1 ⟨ew,v1,rfl,hv1,hl1⟩
 subst ew
 refine ⟨v1,rfl,go1 (v:=v1) rfl (by simp) (kP ?_)⟩
 simp only [kF]
 obtain ⟨b1,k1,ev1⟩:=hv1.shape
 obtain ⟨b2,k2,ev2⟩:=hgv.shape
 rw [wpC_seq,wpC_seq,kD]
 refine go1 (v:=.pointer (some ⟨gb,3,none⟩)) rfl (by simp [e9]) ?_
 refine go1 (v:=glv) rfl (by simp [c9]) ?_
 refine go1 (v:=.int .i64 (gl.length:Nat)) rfl (by simp [ev2]) ?_
 refine go1 (v:=v1) rfl (by simp) ?_
 refine go1 (v:=.int .i64 ((l.take 32767).length:Nat)) rfl (by simp [ev1]) ?_
 refine go1 (v:=.bool false) rfl (by simp [hlen]) (kP ?_)
 simp only [kF]
 rw [kG (by simp),wpC_skip]
 simp only [kF]
 have c5:=fun k=>(hS.bf.mod hm0 (by simp)).cell k
 have hld5:=kJ (hS.bf.mod hm0 (by simp)).cells (n:=8) rfl
 have e5:=hS.s5
 rw [wpC_seq,kD]
 refine go1 (v:=.agg #[.int .i64 kind,.int .i64 frm,.int .i64 to,.int .i64 null,.int .i64 tag,.int .i64 dfl,.int .i64 of,sv]) rfl (by simp [e5,hld5]) ?_
 refine jI fun w2 hb2 hm2=>?_
 refine goSt (b:=w1.heap.size) (v:=.agg #[.int .i64 kind,.int .i64 frm,.int .i64 to,.int .i64 null,.int .i64 tag,.int .i64 dfl,.int .i64 of,sv]) (by simp) (by simp) hb2 (by simp) rfl (by
  intro y hy
  simp only [Value.cells,List.mem_cons,List.not_mem_nil,or_false] at hy
  rcases hy with rfl|rfl|rfl|rfl|rfl|rfl|rfl|rfl
  all_goals first|rfl|exact hsv.one) fun w3 hb3 hm3=>kP ?_
 simp only [kF]
 have hb3:Blk w3 w1.heap.size [.int .i64 kind,.int .i64 frm,.int .i64 to,.int .i64 null,.int .i64 tag,.int .i64 dfl,.int .i64 of,sv]:=by simpa using hb3
 have hm13:Mod [] w1 w3:=Mod.drop (b:=w1.heap.size) (S:=[]) (hm2.nil.trans hm3) (Nat.le_refl _)
 have c53:=fun k=>(hS.bf.mod (hm0.trans hm13) (by simp)).cell k
 rw [wpC_seq,kD]
 refine go1 (v:=.pointer (some ⟨fb,6,none⟩)) rfl (by simp [e5]) ?_
 refine go1 (v:=.int .i64 of) rfl (by simp [c53]) ?_
 refine go1 (v:=.pointer (some ⟨w1.heap.size,0,none⟩)) rfl (by simp) ?_
 refine goSt1 (b:=w1.heap.size) (o:=0) (v:=.int .i64 of) (by simp) (by simp) rfl rfl hb3 (by simp) fun w4 hb4 hm4=>?_
 refine go1 (v:=.pointer (some ⟨w1.heap.size,3,none⟩)) rfl (by simp) ?_
 refine goSt1 (b:=w1.heap.size) (o:=3) (v:=.int .i64 (-1)) (by simp) (by simp) rfl rfl hb4 (by simp) fun w5 hb5 hm5=>?_
 refine go1 (v:=.pointer (some ⟨w1.heap.size,4,none⟩)) rfl (by simp) ?_
 refine goSt1 (b:=w1.heap.size) (o:=4) (v:=.int .i64 (-1)) (by simp) (by simp) rfl rfl hb5 (by simp) fun w6 hb6 hm6=>kP ?_
 simp only [kF]
 have hb6:Blk w6 w1.heap.size [.int .i64 of,.int .i64 frm,.int .i64 to,.int .i64 (-1),.int .i64 (-1),.int .i64 dfl,.int .i64 of,sv]:=by simpa using hb6
 have hm16:Mod [] w1 w6:=Mod.drop (b:=w1.heap.size) (S:=[]) (hm13.nil.trans ((hm4.trans hm5).trans hm6)) (Nat.le_refl _)
 have hm06:=hm0.trans hm16
 unfold ir_stold__3
 rw [wpC_seq,wpC_seq,kD]
 refine go1 (v:=v1) rfl (by simp) ?_
 refine go1 (v:=.int .i64 ((l.take 32767).length:Nat)) rfl (by simp [ev1]) ?_
 refine go1 (v:=.int .i64 (0:Nat)) rfl (by simp) (kP ?_)
 simp only [kF]
 have ht32:(l.take 32767).length≤32767:=by simp;omega
 refine rangeLoop (n:=(l.take 32767).length) (fun j σ' w'=>ToS w0 fb tb gb ver flex nl may [.int .i64 kind,.int .i64 frm,.int .i64 to,.int .i64 null,.int .i64 tag,.int .i64 dfl,.int .i64 of,sv] [.int .i64 tn,tsv,.bool tb',lv,uv] [.int .i64 gn,gsv,.bool gb',glv,guv] σ'∧σ' 98=.int .i64 (j:Nat)∧σ' 97=.int .i64 ((l.take 32767).length:Nat)∧σ' 14=v1∧σ' 15=.pointer (some ⟨w1.heap.size,0,none⟩)∧Mod [] w6 w') (by omega) (by omega) (fun j σ w h=>⟨h.2.1,h.2.2.1⟩) ?_ ?_ ?_
 ·refine ⟨hS.keep fun s hs h10=>?_,by simp,by simp,by simp,by simp,Mod.refl _ _⟩
  simp only [updo,upd]
  repeat rw [if_neg (by omega)]
 ·rintro j σ7 w7 hj ⟨kS,k98,k97,k14,k15,hm7⟩
  have hm17:=hm16.trans hm7
  rw [wpC_seq,kD]
  refine go1 (v:=.int .i64 (j:Nat)) rfl (by simp [k98]) ?_
  refine go1 (v:=.int .i64 (j:Nat)) rfl (by simp) (kP ?_)
  simp only [kF]
  rw [wpC_seq]
  obtain ⟨y,hy⟩ :∃y,(l.take 32767)[j]?=some y:=⟨_,List.getElem?_eq_getElem hj⟩
  obtain ⟨z,hz⟩ :∃z,gl[j]?=some z:=⟨_,List.getElem?_eq_getElem (by omega)⟩
  obtain ⟨ycs,hycs,hyr⟩:=hl1.nth hy
  obtain ⟨zcs,hzcs,hzr⟩:=hg.nth hz
  obtain ⟨a,ca,ea,hja,hcella⟩:=hv1.flat hl1.length hl1.five hycs
  obtain ⟨a2,ca2,ea2,hja2,hcella2⟩:=hgv.flat hg.length hg.five hzcs
  rw [ea2] at kS
  rw [ea] at k14
  have hrf:RepF anyB w7 (.mk of frm to (-1) (-1) dfl of sub) [.int .i64 of,.int .i64 frm,.int .i64 to,.int .i64 (-1),.int .i64 (-1),.int .i64 dfl,.int .i64 of,sv]:=.mk (hsv.keep (hm0.trans hm17)) (hr.keep (hm0.trans hm17))
  refine kN7 (w0:=w0) (fb:=fb) (tb:=tb) (gb:=gb) (ob:=w1.heap.size) (j:=j) (x:=y) (y:=z) (kS.keep fun s hs h10=>?_) (hm0.trans hm17) (hb6.mod hm7 (by simp)) hrf (by simpa using k14) (by simpa using k15) (by simp) hja hja2 (qA hm17.below _ _ _ hcella) (qA (hm0.trans hm17).below _ _ _ hcella2) (hyr.keep hm17) (hzr.keep (hm0.trans hm17)) hT (htd j y z hy hz) fun σ8 w8 hfr h114 hm8=>?_
  ·simp only [updo,upd]
   repeat rw [if_neg (by omega)]
  simp only [kF]
  rw [kG (by simp [h114]),wpC_skip]
  have hv :∀s,s<101→s≠99→s≠100→s≠16→σ8 s=σ7 s:=fun s h1 h2 h3 h4=>by
   rw [hfr s h1];simp only [updo,upd];repeat rw [if_neg (by omega)]
  rw [ea2]
  refine ⟨by rw [hv 98 (by omega) (by omega) (by omega) (by omega)];exact k98,kS.keep fun s hs h10=>?_,by simp,?_,?_,?_,hm7.trans hm8⟩
  ·simp only [upd]
   rw [if_neg (by omega),if_neg (by omega)]
   exact hv s (by omega) (by omega) (by omega) (by omega)
  ·simp only [upd];rw [if_neg (by omega),if_neg (by omega),hv 97 (by omega) (by omega) (by omega) (by omega)];exact k97
  ·simp only [upd];rw [if_neg (by omega),if_neg (by omega),hv 14 (by omega) (by omega) (by omega) (by omega),k14,ea]
  ·simp only [upd];rw [if_neg (by omega),if_neg (by omega),hv 15 (by omega) (by omega) (by omega) (by omega)];exact k15
 ·rintro σ7 w7 ⟨kS,k98,k97,k14,k15,hm7⟩
  simp only [kF]
  rw [wpC_seq,kD]
  refine go1 (v:=.bool true) rfl (by simp) (kP ?_)
  simp only [kF]
  simp only [wpC]
  exact hQ _ _ (by simp) (hm06.trans hm7)
end
section
variable {P:Program} {F:Nat→Nat}
attribute [local simp] gOk updo upd ev RK.val? kL kM Addr.kK qE Value.cells undef
theorem kIX (hm:P.follows .mixedOrders=true) (hw:kH P (F yR)=some (ir_sWhole F)) (hs:kH P (F vW)=some (ir_sSame F)) {w0 w:World} {fb tb gb:Nat} {ver:Int} {flex nl may:Bool} {fcs:List Value} {t0 tsv t2 t3 t4 g0 gsv g2 g3 g4:Value} {s:List UInt8} {σ:Sl} {Q:Exit→Sl→World→Prop}
  (hS:ToS w0 fb tb gb ver flex nl may fcs [t0,tsv,t2,t3,t4] [g0,gsv,g2,g3,g4] σ) (hm0:Mod [] w0 w) (h1:SlC anyB w0 tsv s.length (u8s s)) (h2:SlC anyB w0 gsv (kN s).length (u8s (kN s))) (hQ :∀σ' w',σ' 10=.bool true→Mod [] w0 w'→Q .ret σ' w') :
  wpC P (.seq (.drw [⟨⟨(some (53)),.fad (.tmp 9) 1,none⟩,false,[]⟩,⟨⟨(some (54)),.ld (.tmp 53),none⟩,false,[]⟩,⟨⟨(some (55)),.fad (.tmp 8) 1,none⟩,false,[]⟩,⟨⟨(some (56)),.ld (.tmp 55),none⟩,false,[]⟩,⟨⟨(some (57)),.call (F yR) [.tmp 56],none⟩,true,[]⟩,
   ⟨⟨(some (58)),.call (F vW) [.tmp 54,.tmp 57],none⟩,true,[4]⟩,⟨⟨(some (10)),.mv (.tmp 58),none⟩,false,[4,5]⟩] []) .ret) Q σ w:=by
 rw [wpC_seq]
 show wpD P _ [] _ w.drew _
 have hmd:Mod [] w w.drew:=Mod.drew _ _
 have c8:=fun k=>(hS.bt.mod (hm0.trans hmd) (by simp)).cell k
 have c9:=fun k=>(hS.bg.mod (hm0.trans hmd) (by simp)).cell k
 have e8:=hS.s8
 have e9:=hS.s9
 refine zM (fun i v w'=>match i with|4=>SlC anyB w' v (kN s).length (u8s (kN s))|5=>v=.bool true|_=>True) (by
  intro i v w w' h hm
  split at h
  ·exact h.keep hm
  ·exact h
  ·trivial) ?_
 refine bo1 (v:=.pointer (some ⟨gb,1,none⟩)) rfl (by simp [e9]) ?_
 refine bo1 (v:=gsv) rfl (by simp [c9]) ?_
 refine bo1 (v:=.pointer (some ⟨tb,1,none⟩)) rfl (by simp [e8]) ?_
 refine bo1 (v:=tsv) rfl (by simp [c8]) ?_
 refine jB (vs:=[tsv]) rfl (by simp) (fun w' hm' _=>(wQ hm hw (h1.keep (hm0.trans (hmd.trans hm')))).mono ?_) ?_
 ·rintro e w'' ⟨rfl,v',rfl,hv⟩
  exact ⟨_,rfl,Mod.refl _ _,hv⟩
 rintro v ⟨wv,-⟩
 refine jB (vs:=[gsv,v]) rfl (by simp) (fun w' hm' hkn=>?_) ?_
 ·have k4:=qY (j:=4) (t:=57) hkn (by simp) rfl rfl rfl rfl
  have k4:SlC anyB w' v (kN s).length (u8s (kN s)):=by simpa using k4
  refine (kAM hm hs (h2.keep (hm0.trans (hmd.trans hm'))) k4 (by have:=jC s;omega)).mono ?_
  rintro e w'' ⟨rfl,hmm⟩
  exact ⟨_,rfl,hmm,by simp⟩
 rintro v2 ⟨wv',ev'⟩
 have ev':v2=.bool true:=ev'
 subst ev'
 refine bo1 (v:=.bool true) rfl (by simp) ?_
 intro w' hm' hkn
 refine kP ?_
 simp only [kF]
 exact hQ _ w' (by simp) (hm0.trans (hmd.trans hm'))
theorem kCO (hm:P.follows .mixedOrders=true) (ht:kH P (F kFF)=some (ir_stold_ F)) (hnl:kH P (F kJK)=some (ir_sNull F)) (hw:kH P (F yR)=some (ir_sWhole F)) (hs:kH P (F vW)=some (ir_sSame F)) (hth:kH P (F uQ)=some (ir_sThings F)) (hnum:kH P (F kBO)=some kB6)
  {ver:Int} {flex:Bool} {kind frm to null tag dfl of:Int} {sub:List FD} (hp:kN5 P F ver flex sub) (hlist:kind=11→of≠11→kBI P F ver flex (.mk of frm to (-1) (-1) dfl of sub)):kBI P F ver flex (.mk kind frm to null tag dfl of sub):=by
 intro w cs t ts g gs hf hT hG htd
 have hf0:=hf
 have hT0:=hT
 have hG0:=hG
 cases hf with
 | @mk _ _ _ _ _ _ _ _ sv css f1 f2 =>
 cases hT with
 | @mk n s tn l u tsv lv uv tss uss a1 a2 a3 a4 a5 =>
 cases hG with
 | @mk gn gs' gb' gl gu gsv glv guv gss guss b1 b2 b3 b4 b5 =>
 unfold ir_stold_ at ht
 refine kT ht hm (by simp) ?_
 clear ht
 simp only [FD.kAZ] at htd
 obtain ⟨⟨hv1,hv2⟩,hv3⟩:=htd
 generalize hnlv:FD.jR (.mk kind frm to null tag dfl of sub) ver (.mk n s tn l u)=nl at *
 rw [wpC_seq,kD]
 refine wB (v:=.agg #[.int .i64 kind,.int .i64 frm,.int .i64 to,.int .i64 null,.int .i64 tag,.int .i64 dfl,.int .i64 of,sv]) (by simp) fun w1 hb1 hm1=>?_
 refine wB (v:=.agg #[.int .i64 n,tsv,.bool tn,lv,uv]) (by simp) fun w2 hb2 hm2=>?_
 refine wB (v:=.agg #[.int .i64 gn,gsv,.bool gb',glv,guv]) (by simp) fun w3 hb3 hm3=>?_
 refine go1 (v:=.bool false) rfl (by simp) (kP ?_)
 simp only [kF]
 have hb1:Blk w1 w.heap.size [.int .i64 kind,.int .i64 frm,.int .i64 to,.int .i64 null,.int .i64 tag,.int .i64 dfl,.int .i64 of,sv]:=by simpa using hb1
 have hb2:Blk w2 w1.heap.size [.int .i64 n,tsv,.bool tn,lv,uv]:=by simpa using hb2
 have hb3:Blk w3 w2.heap.size [.int .i64 gn,gsv,.bool gb',glv,guv]:=by simpa using hb3
 have hm13:=hm2.trans hm3
 have hm03:=hm1.trans hm13
 have hb1':=hb1.mod hm13 (by simp)
 have hb2':=hb2.mod hm3 (by simp)
 have hld1:=kJ hb1'.cells (n:=8) rfl
 have hld2:=kJ hb2'.cells (n:=5) rfl
 rw [wpC_seq,kD]
 refine go1 (v:=.agg #[.int .i64 kind,.int .i64 frm,.int .i64 to,.int .i64 null,.int .i64 tag,.int .i64 dfl,.int .i64 of,sv]) rfl (by simp [hld1]) ?_
 refine go1 (v:=.int .i64 ver) rfl (by simp) ?_
 refine go1 (v:=.agg #[.int .i64 n,tsv,.bool tn,lv,uv]) rfl (by simp [hld2]) ?_
 refine qF rfl (vs:=[.agg #[.int .i64 kind,.int .i64 frm,.int .i64 to,.int .i64 null,.int .i64 tag,.int .i64 dfl,.int .i64 of,sv],.int .i64 ver,.agg #[.int .i64 n,tsv,.bool tn,lv,uv]]) (by simp) (kIE hm hnl (hf0.keep hm03) (hT0.keep hm03)) ?_
 rintro e w4 ⟨rfl,hm4⟩
 rw [hnlv]
 refine ⟨_,rfl,go1 (v:=.bool nl) rfl (by simp) (kP ?_)⟩
 simp only [kF]
 have hm04:=hm03.trans hm4
 have c1:=fun k=>(hb1'.mod hm4 (by simp)).cell k
 have hmay :∀(σ:Sl),σ 5=.pointer (some ⟨w.heap.size,0,none⟩)→σ 1=.int .i64 ver →∀Q:Sl→World→Prop,(∀σ',(∀s,s<21→s≠12→σ' s=σ s)→σ' 12=.bool (mayV null ver)→Q σ' w4) →
   wpR P [⟨some 21,.fad (.tmp 5) 3,none⟩,⟨some 22,.ld (.tmp 21),none⟩,⟨some 23,.bin .geq (.tmp 22) (.const (.int .i64 0)),none⟩,⟨some 24,.mv (.tmp 23),none⟩,⟨some 25,.mv (.tmp 1),some (24,true)⟩,⟨some 26,.fad (.tmp 5) 3,some (24,true)⟩,⟨some 27,.ld (.tmp 26),some (24,true)⟩,
    ⟨some 28,.bin .geq (.tmp 25) (.tmp 27),some (24,true)⟩,⟨some 29,.pick (.tmp 24) (.tmp 28) (.const (.bool false)),none⟩,⟨some 12,.mv (.tmp 29),none⟩] σ w4 Q:=by
  intro σ h5 h1 Q hQ
  refine go1 (v:=.pointer (some ⟨w.heap.size,3,none⟩)) rfl (by simp [h5]) ?_
  refine go1 (v:=.int .i64 null) rfl (by simp [c1]) ?_
  refine go1 (v:=.bool (decide (null≥0))) rfl (by simp) ?_
  refine go1 (v:=.bool (decide (null≥0))) rfl (by simp) ?_
  by_cases hn:null≥0
  ·have:decide (null≥0)=true:=by simp [hn]
   rw [this]
   refine go1 (v:=.int .i64 ver) (by simp) (by simp [h1]) ?_
   refine go1 (v:=.pointer (some ⟨w.heap.size,3,none⟩)) (by simp) (by simp [h5]) ?_
   refine go1 (v:=.int .i64 null) (by simp) (by simp [c1]) ?_
   refine go1 (v:=.bool (decide (ver≥null))) (by simp) (by simp) ?_
   refine go1 (v:=.bool (decide (ver≥null))) rfl (by simp) ?_
   refine go1 (v:=.bool (decide (ver≥null))) rfl (by simp) (kP (hQ _ (fun s h1 h2=>?_) (by simp [mayV,hn])))
   simp only [updo,upd]
   repeat rw [if_neg (by omega)]
  ·have:decide (null≥0)=false:=by simp;omega
   rw [this]
   iterate 4 (refine go0 (by simp) ?_)
   refine go1 (v:=.bool false) rfl (by simp) ?_
   refine go1 (v:=.bool false) rfl (by simp) (kP (hQ _ (fun s h1 h2=>?_) (by simp [mayV];omega)))
   simp only [updo,upd]
   repeat rw [if_neg (by omega)]
 rw [wpC_seq,kD]
 refine hmay _ (by simp) (by simp) _ fun σ5 hfr5 h512=>?_
 simp only [kF]
 generalize mayV null ver=may at h512 hv1
 have hS:ToS w4 w.heap.size w1.heap.size w2.heap.size ver flex nl may [.int .i64 kind,.int .i64 frm,.int .i64 to,.int .i64 null,.int .i64 tag,.int .i64 dfl,.int .i64 of,sv] [.int .i64 n,tsv,.bool tn,lv,uv] [.int .i64 gn,gsv,.bool gb',glv,guv] σ5 :=
  ⟨hb1'.mod hm4 (by simp),hb2'.mod hm4 (by simp),hb3.mod hm4 (by simp),by rw [hfr5 1 (by omega) (by omega)];simp,by rw [hfr5 2 (by omega) (by omega)];simp,by rw [hfr5 5 (by omega) (by omega)];simp,by rw [hfr5 8 (by omega) (by omega)];simp,by rw [hfr5 9 (by omega) (by omega)];simp,
   by rw [hfr5 11 (by omega) (by omega)];simp,h512⟩
 clear hfr5 h512 hmay c1
 rw [wpC_seq,wpC_seq]
 refine kN6 hS (Mod.refl _ _) (fun h=>hv1 h) fun σ6 hfr6 h646=>?_
 simp only [kF]
 have hS6:=hS.keep fun s hs _=>hfr6 s (by omega)
 rw [kG (by simp [h646]),wpC_skip]
 simp only [kF]
 clear hS hfr6 h646
 have e11:=hS6.s11
 rw [wpC_seq,wpC_seq,kD]
 refine go1 (v:=.bool nl) rfl (by simp [e11]) (kP ?_)
 simp only [kF]
 have hS7:ToS w4 w.heap.size w1.heap.size w2.heap.size ver flex nl may [.int .i64 kind,.int .i64 frm,.int .i64 to,.int .i64 null,.int .i64 tag,.int .i64 dfl,.int .i64 of,sv] [.int .i64 n,tsv,.bool tn,lv,uv] [.int .i64 gn,gsv,.bool gb',glv,guv] (upd σ6 47 (.bool nl)) :=
  hS6.keep fun s hs _=>by simp only [upd];rw [if_neg (by omega)]
 show wpC P _ _ (upd σ6 47 (.bool nl)) w4
 generalize hσ7:upd σ6 47 (.bool nl)=σ7 at hS7 ⊢
 have h47:σ7 47=.bool nl:=by subst hσ7;simp
 clear hσ7 hS6
 have fin :∀w',Mod [] w4 w'→kG6 w (.returned (.bool true)) w':=fun w' h=>⟨rfl,hm04.trans h⟩
 have finQ :∀σ' w',σ' 10=.bool true→Mod [] w4 w'→postC [.tmp 10] (kG6 w) .ret σ' w':=fun σ' w' h1 h2=>kJW h1 (fin w' h2)
 cases nl with
 | true =>
   rw [kI (by simp [h47]),wpC_seq,kD]
   refine go1 (v:=.bool true) rfl (by simp) (kP ?_)
   simp only [kF]
   repeat first|refine zP ?_|refine j3 ?_
   exact ret1 (v:=.bool true) (by simp) (fin _ (Mod.refl _ _))
 | false =>
 rw [kG (by simp [h47]),wpC_skip]
 simp only [kF]
 obtain ⟨x1,x2,x3,x4⟩:=hv2 rfl
 have e5:=hS7.s5
 have e8:=hS7.s8
 have e9:=hS7.s9
 have e1:=hS7.s1
 have e2:=hS7.s2
 have c5:=fun k=>hS7.bf.cell k
 have a1':=a1.keep hm04
 have b1':=b1.keep hm04
 rw [wpC_seq]
 unfold ir_stold__6
 rw [wpC_seq,kD]
 refine go1 (v:=.pointer (some ⟨w.heap.size,0,none⟩)) rfl (by simp [e5]) ?_
 refine go1 (v:=.int .i64 kind) rfl (by simp [c5]) (kP ?_)
 simp only [kF]
 rw [wpC_block,wpC_seq,wpC_seq,kD]
 refine go1 (v:=.bool (kind==8)) rfl (by simp) ?_
 refine go1 (v:=.bool (kind==8)) rfl (by simp) (kP ?_)
 simp only [kF]
 by_cases k8:kind=8
 ·rw [kI (by simp [k8]),wpC_skip]
  simp only [kF]
  rw [kI (by simp [k8])]
  refine kIX hm hw hs (hS7.keep fun s hs _=>?_) (Mod.refl _ _) a1' (by have:=x1 (.inl k8);simp only [TR.s] at this;rw [←this];exact b1') fun σ' w' h1 h2=>?_
  ·simp only [updo,upd]
   repeat rw [if_neg (by omega)]
  ·simp only [kF,kR]
   exact finQ σ' w' h1 h2
 rw [kG (by simp [k8]),kD]
 refine go1 (v:=.bool (kind==9)) rfl (by simp) ?_
 refine go1 (v:=.bool (kind==9)) rfl (by simp) (kP ?_)
 simp only [kF]
 by_cases k9:kind=9
 ·rw [kI (by simp [k9])]
  refine kIX hm hw hs (hS7.keep fun s hs _=>?_) (Mod.refl _ _) a1' (by have:=x1 (.inr k9);simp only [TR.s] at this;rw [←this];exact b1') fun σ' w' h1 h2=>?_
  ·simp only [updo,upd]
   repeat rw [if_neg (by omega)]
  ·simp only [kF,kR]
   exact finQ σ' w' h1 h2
 rw [kG (by simp [k9])]
 unfold ir_stold__5
 rw [wpC_seq,kD]
 refine go1 (v:=.bool (kind==7)) rfl (by simp) ?_
 refine go1 (v:=.bool (kind==7)) rfl (by simp) (kP ?_)
 simp only [kF]
 by_cases k7:kind=7
 ·rw [kI (by simp [k7]),wpC_seq,kD]
  refine kX ?_
  simp only [RK.run,ev]
  refine ⟨by omega,by omega,by omega,by omega,fun T=>?_⟩
  have hbn:=Blk.new w4 (u8s (List.replicate 16 0)) T
  rw [show (zrep (16:Int).toNat [Value.int .u8 0])=u8s (List.replicate 16 0) from rfl]
  have hmn:Mod [] w4 (w4.alloc (.cells (u8s (List.replicate 16 0)).toArray T)):=Mod.alloc _ _ _
  generalize w4.alloc (.cells (u8s (List.replicate 16 0)).toArray T)=w5 at hbn hmn ⊢
  refine go1 (v:=.slice (some ⟨w4.heap.size,0,none⟩) 16 16) rfl (by simp) (kP ?_)
  simp only [kF]
  have c8:=fun k=>(hS7.bt.mod hmn (by simp)).cell k
  rw [wpC_seq,kD]
  refine go1 (v:=.slice (some ⟨w4.heap.size,0,none⟩) 16 16) rfl (by simp) ?_
  refine go1 (v:=.pointer (some ⟨w1.heap.size,1,none⟩)) rfl (by simp [e8]) ?_
  refine go1 (v:=tsv) rfl (by simp [c8]) ?_
  refine kX ?_
  have hs2:SlC anyB w5 tsv s.length (u8s s):=a1'.keep hmn
  simp only [RK.run,ev,updo,upd,if_true,if_false,show (62:Nat)≠64 by decide,show (62:Nat)≠63 by decide,hs2.src]
  have hput:=hbn.put (o:=0) (vs:=(u8s s).take (Nat.min s.length 16*1)) (by simp [kY];omega)
  rw [kER] at hput
  have hmput:Mod [w4.heap.size] w5 (putCells w5 ⟨w4.heap.size,0,none⟩ 0 ((u8s s).take (Nat.min s.length 16*1))):=Mod.put (by simp)
  refine ⟨qL hbn (by simp [kY];omega) (fun y hy=>by
   have:=List.mem_of_mem_take hy
   simp only [u8s,List.mem_map] at this
   obtain ⟨b,-,rfl⟩:=this;rfl),?_⟩
  generalize putCells w5 ⟨w4.heap.size,0,none⟩ 0 ((u8s s).take (Nat.min s.length 16*1))=w6 at hput hmput ⊢
  refine kE ?_
  have hm46:Mod [] w4 w6:=Mod.drop (b:=w4.heap.size) (S:=[]) (hmn.nil.trans hmput) (Nat.le_refl _)
  have c9:=fun k=>(hS7.bg.mod hm46 (by simp)).cell k
  have hl16:(vF s).length=16:=by simp [vF];omega
  have hd:=DRaw.kKZ (n0:=w4.heap.size) hput (Nat.le_refl _)
  have hsl:=hd.slc.any
  rw [hl16] at hsl hd
  rw [wpC_seq,kD]
  refine go1 (v:=.pointer (some ⟨w2.heap.size,1,none⟩)) rfl (by simp [e9]) ?_
  refine go1 (v:=gsv) rfl (by simp [c9]) ?_
  refine go1 (v:=.slice (some ⟨w4.heap.size,0,none⟩) 16 16) rfl (by simp) ?_
  have x2:=x2 k7
  simp only [TR.s] at x2
  refine qF rfl (vs:=[gsv,.slice (some ⟨w4.heap.size,0,none⟩) 16 16]) (by simp) (kAM hm hs (l2:=vF s) (b1'.keep hm46) (by rw [hl16];exact hsl) (by rw [x2];omega)) ?_
  rintro e w7 ⟨rfl,hm7⟩
  refine ⟨_,rfl,go1 (v:=.bool true) rfl (by simp [x2]) (kP ?_)⟩
  simp only [kF]
  repeat first|refine zP ?_|refine j3 ?_
  exact ret1 (v:=.bool true) (by simp) (fin _ (hm46.trans hm7))
 rw [kG (by simp [k7]),wpC_seq,kD]
 refine go1 (v:=.bool (kind==10)) rfl (by simp) ?_
 refine go1 (v:=.bool (kind==10)) rfl (by simp) (kP ?_)
 simp only [kF]
 by_cases k10:kind=10
 ·rw [kI (by simp [k10]),wpC_seq,kD]
  have hld8:=kJ hS7.bt.cells (n:=5) rfl
  have hld9:=kJ hS7.bg.cells (n:=5) rfl
  refine go1 (v:=.pointer (some ⟨w.heap.size,7,none⟩)) rfl (by simp [e5]) ?_
  refine go1 (v:=sv) rfl (by simp [c5]) ?_
  refine go1 (v:=.int .i64 ver) rfl (by simp [e1]) ?_
  refine go1 (v:=.bool flex) rfl (by simp [e2]) ?_
  refine go1 (v:=.agg #[.int .i64 n,tsv,.bool tn,lv,uv]) rfl (by simp [e8,hld8]) ?_
  refine go1 (v:=.agg #[.int .i64 gn,gsv,.bool gb',glv,guv]) rfl (by simp [e9,hld9]) ?_
  refine qF rfl (vs:=[sv,.int .i64 ver,.bool flex,.agg #[.int .i64 n,tsv,.bool tn,lv,uv],.agg #[.int .i64 gn,gsv,.bool gb',glv,guv]]) (by simp) (hp w4 sv css _ _ _ _ (f1.keep hm04) (f2.keep hm04) (hT0.keep hm04) (hG0.keep hm04) (x3 k10)) ?_
  rintro e w7 ⟨rfl,hm7⟩
  refine ⟨_,rfl,go1 (v:=.bool true) rfl (by simp) (kP ?_)⟩
  simp only [kF]
  repeat first|refine zP ?_|refine j3 ?_
  exact ret1 (v:=.bool true) (by simp) (fin _ hm7)
 rw [kG (by simp [k10]),wpC_seq,kD]
 refine go1 (v:=.bool (kind==11)) rfl (by simp) ?_
 refine go1 (v:=.bool (kind==11)) rfl (by simp) (kP ?_)
 simp only [kF]
 by_cases k11:kind=11
 ·rw [kI (by simp [k11])]
  obtain ⟨y1,y2,y3⟩:=hv3 k11 rfl
  refine kN8 hm hth (w0:=w4) (hS7.keep fun s hs _=>?_) (Mod.refl _ _) (f1.keep hm04) (f2.keep hm04) (a2.keep hm04) (a3.keep hm04) (b2.keep hm04) (b3.keep hm04) (hlist k11 y1) y2 (fun i y h hy hh=>?_) fun σ' w' h1 h2=>?_
  ·simp only [updo,upd]
   repeat rw [if_neg (by omega)]
  ·have q1:FD.jR (.mk of frm to (-1) (-1) dfl of sub) ver y=false:=by simp [FD.jR,FD.null]
   have q2:mayV (-1) ver=false:=by simp [mayV]
   simp only [FD.kAZ]
   rw [q1,q2]
   exact ⟨y3 i y h hy hh,fun hk=>absurd hk y1⟩
  ·simp only [kF,kR]
   exact finQ σ' w' h1 h2
 rw [kG (by simp [k11]),wpC_skip]
 simp only [kF,kR]
 rw [wpC_seq]
 show wpD P _ [] _ w4.drew _
 have hmd:Mod [] w4 w4.drew:=Mod.drew _ _
 have d5:=fun k=>(hS7.bf.mod hmd (by simp)).cell k
 have d8:=fun k=>(hS7.bt.mod hmd (by simp)).cell k
 have d9:=fun k=>(hS7.bg.mod hmd (by simp)).cell k
 refine zM (fun i v w'=>match i with|6=>v=.int .i64 (yL kind n)|_=>True) (by
  intro i v w w' h hm
  split at h
  ·exact h
  ·trivial) ?_
 refine bo1 (v:=.pointer (some ⟨w2.heap.size,0,none⟩)) rfl (by simp [e9]) ?_
 refine bo1 (v:=.int .i64 gn) rfl (by simp [d9]) ?_
 refine bo1 (v:=.pointer (some ⟨w.heap.size,0,none⟩)) rfl (by simp [e5]) ?_
 refine bo1 (v:=.int .i64 kind) rfl (by simp [d5]) ?_
 refine bo1 (v:=.pointer (some ⟨w1.heap.size,0,none⟩)) rfl (by simp [e8]) ?_
 refine bo1 (v:=.int .i64 n) rfl (by simp [d8]) ?_
 refine jB (vs:=[.int .i64 kind,.int .i64 n]) rfl (by simp) (fun w' hm' _=>(kE0 hm hnum).mono ?_) ?_
 ·rintro e w'' ⟨rfl,rfl⟩
  exact ⟨_,rfl,Mod.refl _ _,rfl⟩
 rintro v ⟨wv,ev'⟩
 have ev':v=.int .i64 (yL kind n):=ev'
 subst ev'
 have x4:=x4 k7 k8 k9 k10 k11
 simp only [TR.n] at x4
 refine bo1 (v:=.bool true) rfl (by simp [x4]) ?_
 refine bo1 (v:=.bool true) rfl (by simp) ?_
 intro w' hm' hkn
 refine kP ?_
 simp only [kF]
 exact ret1 (v:=.bool true) (by simp) (fin _ (hmd.trans hm'))
end
section
variable {P:Program} {F:Nat→Nat}
attribute [local simp] gOk updo upd ev RK.val? kL kM Addr.kK qE Value.cells undef
def kA0 (P:Program) (F:Nat→Nat) (fds:List FD):Prop :=
 ∀(w:World) (sv:Value) (css:List (List Value)) (x:TR) (xs:List Value),SlC anyB w sv fds.length css.flatten→jU anyB w fds css→RepT anyB w x xs→x.u=[]→kFX fds 0 x→Calls P (F kFE) [sv,.agg xs.toArray].toArray w (kG6 w)
theorem kMA {w:World} {fb xb:Nat} {kind frm to null tag dfl of n:Int} {fv xv lv uv:Value} {xn:Bool} {s:List UInt8} {σ:Sl} {Q:Exit→Sl→World→Prop} (hf:Blk w fb [.int .i64 kind,.int .i64 frm,.int .i64 to,.int .i64 null,.int .i64 tag,.int .i64 dfl,.int .i64 of,fv]) (hx:Blk w xb [.int .i64 n,xv,.bool xn,lv,uv])
  (h6:σ 6=.pointer (some ⟨fb,0,none⟩)) (h7:σ 7=.pointer (some ⟨xb,0,none⟩)) (hs:SlC anyB w xv s.length (u8s s)) (h:xn=decide (null≥0)∧s=[]) (hQ :∀σ' w',(∀k,k<24→σ' k=σ k)→Mod [] w w'→Q .normal σ' w'):wpC P (ir_sUsual_1 F) Q σ w:=by
 unfold ir_sUsual_1
 obtain ⟨rfl,rfl⟩:=h
 obtain ⟨b,c,es⟩:=hs.shape
 have c6:=fun k=>hf.cell k
 have c7:=fun k=>hx.cell k
 rw [wpC_seq,kD]
 refine go1 (v:=.pointer (some ⟨xb,2,none⟩)) rfl (by simp [h7]) ?_
 refine go1 (v:=.bool (decide (null≥0))) rfl (by simp [c7]) ?_
 refine go1 (v:=.pointer (some ⟨fb,3,none⟩)) rfl (by simp [h6]) ?_
 refine go1 (v:=.int .i64 null) rfl (by simp [c6]) ?_
 refine go1 (v:=.bool (decide (null≥0))) rfl (by simp) ?_
 refine go1 (v:=.bool false) rfl (by simp) ?_
 refine go1 (v:=.bool false) rfl (by simp) ?_
 refine go1 (v:=.pointer (some ⟨xb,1,none⟩)) (by simp) (by simp [h7]) ?_
 refine go1 (v:=xv) (by simp) (by simp [c7]) ?_
 refine go1 (v:=.int .i64 (0:Nat)) (by simp) (by simp [es]) ?_
 refine go1 (v:=.bool false) (by simp) (by simp) ?_
 refine go1 (v:=.bool false) rfl (by simp) (kP ?_)
 simp only [kF]
 rw [kG (by simp),wpC_skip]
 refine hQ _ w (fun k hk=>?_) (Mod.refl _ _)
 simp only [updo,upd]
 repeat rw [if_neg (by omega)]
theorem kFY {w:World} {xb:Nat} {n:Int} {xv lv uv:Value} {xn:Bool} {s:List UInt8} {l:List TR} {tss:List (List Value)} {σ:Sl} {Q:Exit→Sl→World→Prop} (hx:Blk w xb [.int .i64 n,xv,.bool xn,lv,uv])
  (h7:σ 7=.pointer (some ⟨xb,0,none⟩)) (hs:SlC anyB w xv s.length (u8s s)) (hl:SlC anyB w lv l.length tss.flatten) (h:s=[]∧l=[]) (hQ :∀σ' w',(∀k,k<24→σ' k=σ k)→Mod [] w w'→Q .normal σ' w'):wpC P (ir_sUsual_2 F) Q σ w:=by
 unfold ir_sUsual_2
 obtain ⟨rfl,rfl⟩:=h
 obtain ⟨b,c,es⟩:=hs.shape
 obtain ⟨b2,c2,el⟩:=hl.shape
 have c7:=fun k=>hx.cell k
 rw [wpC_seq,kD]
 refine go1 (v:=.pointer (some ⟨xb,1,none⟩)) rfl (by simp [h7]) ?_
 refine go1 (v:=xv) rfl (by simp [c7]) ?_
 refine go1 (v:=.int .i64 (0:Nat)) rfl (by simp [es]) ?_
 refine go1 (v:=.bool false) rfl (by simp) ?_
 refine go1 (v:=.bool false) rfl (by simp) ?_
 refine go1 (v:=.pointer (some ⟨xb,3,none⟩)) (by simp) (by simp [h7]) ?_
 refine go1 (v:=lv) (by simp) (by simp [c7]) ?_
 refine go1 (v:=.int .i64 (0:Nat)) (by simp) (by simp [el]) ?_
 refine go1 (v:=.bool false) (by simp) (by simp) ?_
 refine go1 (v:=.bool false) rfl (by simp) (kP ?_)
 simp only [kF]
 rw [kG (by simp),wpC_skip]
 refine hQ _ w (fun k hk=>?_) (Mod.refl _ _)
 simp only [updo,upd]
 repeat rw [if_neg (by omega)]
theorem kN9 {w:World} {fb xb:Nat} {kind frm to null tag dfl of n:Int} {sub:List FD} {fv xv lv uv:Value} {xn:Bool} {x:TR} {css:List (List Value)} {σ:Sl} {Q:Exit→Sl→World→Prop} (hf:Blk w fb [.int .i64 kind,.int .i64 frm,.int .i64 to,.int .i64 null,.int .i64 tag,.int .i64 dfl,.int .i64 of,fv]) (hx:Blk w xb [.int .i64 n,xv,.bool xn,lv,uv])
  (h6:σ 6=.pointer (some ⟨fb,0,none⟩)) (h7:σ 7=.pointer (some ⟨xb,0,none⟩)) (hsv:SlC anyB w fv sub.length css.flatten) (hr:jU anyB w sub css) (hrx:RepT anyB w x [.int .i64 n,xv,.bool xn,lv,uv]) (hU:kA0 P F sub) (h1:null≥0→xn=true) (h2:null<0→x.u=[]∧kFX sub 0 x)
  (hQ :∀σ' w',(∀k,k<24→σ' k=σ k)→σ' 87=.bool false→Mod [] w w'→Q .normal σ' w'):wpC P (ir_sUsual_3 F) Q σ w:=by
 unfold ir_sUsual_3
 have c6:=fun k=>hf.cell k
 have c7:=fun k=>hx.cell k
 have hld:=kJ hx.cells (n:=5) rfl
 rw [kD]
 refine go1 (v:=.pointer (some ⟨fb,3,none⟩)) rfl (by simp [h6]) ?_
 refine go1 (v:=.int .i64 null) rfl (by simp [c6]) ?_
 refine go1 (v:=.bool (decide (null≥0))) rfl (by simp) ?_
 refine go1 (v:=.bool (decide (null≥0))) rfl (by simp) ?_
 by_cases hn:null≥0
 ·have e:decide (null≥0)=true:=by simp [hn]
  have e2:=h1 hn
  subst e2
  rw [e]
  refine go1 (v:=.pointer (some ⟨xb,2,none⟩)) (by simp) (by simp [h7]) ?_
  refine go1 (v:=.bool true) (by simp) (by simp [c7]) ?_
  refine go1 (v:=.bool false) (by simp) (by simp) ?_
  refine go1 (v:=.bool false) rfl (by simp) ?_
  refine go1 (v:=.bool false) rfl (by simp) ?_
  refine go1 (v:=.pointer (some ⟨fb,3,none⟩)) (by simp) (by simp [h6]) ?_
  refine go1 (v:=.int .i64 null) (by simp) (by simp [c6]) ?_
  refine go1 (v:=.bool false) (by simp) (by simp;omega) ?_
  refine go1 (v:=.bool false) (by simp) (by simp) ?_
  iterate 5 (refine go0 (by simp) ?_)
  refine go1 (v:=.bool false) (by simp) (by simp) ?_
  refine go1 (v:=.bool false) rfl (by simp) (kP ?_)
  refine hQ _ w (fun k hk=>?_) (by simp) (Mod.refl _ _)
  simp only [updo,upd]
  repeat rw [if_neg (by omega)]
 ·have e:decide (null≥0)=false:=by simp;omega
  obtain ⟨k1,k2⟩:=h2 (by omega)
  rw [e]
  iterate 3 (refine go0 (by simp) ?_)
  refine go1 (v:=.bool false) rfl (by simp) ?_
  refine go1 (v:=.bool false) rfl (by simp) ?_
  refine go1 (v:=.pointer (some ⟨fb,3,none⟩)) (by simp) (by simp [h6]) ?_
  refine go1 (v:=.int .i64 null) (by simp) (by simp [c6]) ?_
  refine go1 (v:=.bool true) (by simp) (by simp;omega) ?_
  refine go1 (v:=.bool true) (by simp) (by simp) ?_
  refine go1 (v:=.pointer (some ⟨fb,7,none⟩)) (by simp) (by simp [h6]) ?_
  refine go1 (v:=fv) (by simp) (by simp [c6]) ?_
  refine go1 (v:=.agg #[.int .i64 n,xv,.bool xn,lv,uv]) (by simp) (by simp [h7,hld]) ?_
  refine qF (by simp) (vs:=[fv,.agg #[.int .i64 n,xv,.bool xn,lv,uv]]) (by simp) (hU w fv css x _ hsv hr hrx k1 k2) ?_
  rintro e w' ⟨rfl,hm'⟩
  refine ⟨_,rfl,?_⟩
  refine go1 (v:=.bool false) (by simp) (by simp) ?_
  refine go1 (v:=.bool false) (by simp) (by simp) ?_
  refine go1 (v:=.bool false) rfl (by simp) (kP ?_)
  refine hQ _ w' (fun k hk=>?_) (by simp) hm'
  simp only [updo,upd]
  repeat rw [if_neg (by omega)]
theorem kKD (hm:P.follows .mixedOrders=true) (hs:kH P (F vW)=some (ir_sSame F)) (hnum:kH P (F kBO)=some kB6) {w:World} {fb xb:Nat} {f:FD} {x:TR} {fcs xcs:List Value} {σ:Sl} {Q:Exit→Sl→World→Prop} (hf:Blk w fb fcs) (hx:Blk w xb xcs) (hrf:RepF anyB w f fcs) (hrx:RepT anyB w x xcs)
  (h6:σ 6=.pointer (some ⟨fb,0,none⟩)) (h7:σ 7=.pointer (some ⟨xb,0,none⟩)) (hU:kA0 P F f.sub) (h:f.kAY x) (hQ :∀σ' w',(∀k,k<22→σ' k=σ k)→Mod [] w w'→Q .normal σ' w') :
  wpC P (.seq (.blk [⟨some 22,.fad (.tmp 6) 0,none⟩,⟨some 23,.ld (.tmp 22),none⟩]) (.block 2 (.seq (.blk [⟨some 33,.bin .eql (.tmp 23) (.const (.int .i64 8)),none⟩,⟨some 32,.mv (.tmp 33),none⟩]) (.cond (.tmp 32) (ir_sUsual_1 F) (ir_sUsual_5 F))))) Q σ w:=by
 have hrx0:=hrx
 cases hrf with
 | @mk kind frm to null tag dfl of sub sv css f1 f2 =>
 cases hrx with
 | @mk n s xn l u xv lv uv tss uss a1 a2 a3 a4 a5 =>
 simp only [FD.kAY,TR.null,TR.s,TR.l,TR.n] at h
 obtain ⟨q8,q7,q9,q10,qn⟩:=h
 simp only [FD.sub] at hU
 have c6:=fun k=>hf.cell k
 have c7:=fun k=>hx.cell k
 rw [wpC_seq,kD]
 refine go1 (v:=.pointer (some ⟨fb,0,none⟩)) rfl (by simp [h6]) ?_
 refine go1 (v:=.int .i64 kind) rfl (by simp [c6]) (kP ?_)
 simp only [kF]
 rw [wpC_block,wpC_seq,kD]
 refine go1 (v:=.bool (kind==8)) rfl (by simp) ?_
 refine go1 (v:=.bool (kind==8)) rfl (by simp) (kP ?_)
 simp only [kF]
 by_cases k8:kind=8
 ·rw [kI (by simp [k8])]
  refine kMA hf hx (by simp [h6]) (by simp [h7]) a1 (q8 k8) fun σ' w' hfr hm'=>?_
  simp only [kR]
  refine hQ σ' w' (fun k hk=>?_) hm'
  rw [hfr k (by omega)]
  simp only [updo,upd]
  repeat rw [if_neg (by omega)]
 rw [kG (by simp [k8])]
 unfold ir_sUsual_5
 rw [wpC_seq,kD]
 refine go1 (v:=.bool (kind==7)) rfl (by simp) ?_
 refine go1 (v:=.bool (kind==7)) rfl (by simp) (kP ?_)
 simp only [kF]
 by_cases k7:kind=7
 ·rw [kI (by simp [k7]),wpC_seq]
  show wpD P _ [] _ w.drew _
  have hmd:Mod [] w w.drew:=Mod.drew _ _
  have d7:=fun k=>(hx.mod hmd (by simp)).cell k
  refine zM (fun i v w'=>match i with|2=>SlC anyB w' v (List.replicate 16 (0:UInt8)).length (u8s (List.replicate 16 0))|3=>v=.bool true|_=>True) (by
   intro i v w w' h hm
   split at h
   ·exact h.keep hm
   ·exact h
   ·trivial) ?_
  refine bo1 (v:=.pointer (some ⟨xb,1,none⟩)) rfl (by simp [h7]) ?_
  refine bo1 (v:=xv) rfl (by simp [d7]) ?_
  refine boN rfl (fun w' hm' _=>?_) ?_
  ·simp only [RK.run,ev]
   refine ⟨by omega,by omega,by omega,by omega,fun T=>?_⟩
   have hbn:=Blk.new w' (u8s (List.replicate 16 0)) T
   rw [show (zrep (16:Int).toNat [Value.int .u8 0])=u8s (List.replicate 16 0) from rfl]
   refine ⟨Mod.alloc _ _ _,?_⟩
   have hd:=DRaw.kKZ (n0:=w'.heap.size) (l:=List.replicate 16 0) hbn (Nat.le_refl _)
   exact hd.slc.any
  rintro v ⟨wv,hv⟩
  refine jB (vs:=[xv,v]) rfl (by simp) (fun w' hm' hkn=>?_) ?_
  ·have k2:=qY (j:=2) (t:=50) hkn (by simp) rfl rfl rfl rfl
   have k2:SlC anyB w' v (List.replicate 16 (0:UInt8)).length (u8s (List.replicate 16 0)):=by simpa using k2
   have e7:=q7 k7
   refine (kAM hm hs (a1.keep (hmd.trans hm')) k2 (by rw [e7];simp)).mono ?_
   rintro e w'' ⟨rfl,hmm⟩
   exact ⟨_,rfl,hmm,by simp [e7]⟩
  rintro v2 ⟨wv',ev'⟩
  have ev':v2=.bool true:=ev'
  subst ev'
  refine bo1 (v:=.bool false) rfl (by simp) ?_
  intro w' hm' hkn
  refine kP ?_
  simp only [kF]
  rw [kG (by simp),wpC_skip]
  simp only [kR]
  refine hQ _ w' (fun k hk=>?_) (hmd.trans hm')
  simp only [updo,upd]
  repeat rw [if_neg (by omega)]
 rw [kG (by simp [k7]),wpC_seq,wpC_seq,kD]
 refine go1 (v:=.bool (kind==9)) rfl (by simp) ?_
 refine go1 (v:=.bool (kind==9)) rfl (by simp) (kP ?_)
 simp only [kF]
 by_cases k9:kind=9
 ·rw [kI (by simp [k9]),wpC_skip]
  simp only [kF]
  rw [kI (by simp [k9])]
  refine kFY hx (by simp [h7]) a1 a2 (q9 (.inl k9)) fun σ' w' hfr hm'=>?_
  simp only [kR]
  refine hQ σ' w' (fun k hk=>?_) hm'
  rw [hfr k (by omega)]
  simp only [updo,upd]
  repeat rw [if_neg (by omega)]
 rw [kG (by simp [k9]),kD]
 refine go1 (v:=.bool (kind==11)) rfl (by simp) ?_
 refine go1 (v:=.bool (kind==11)) rfl (by simp) (kP ?_)
 simp only [kF]
 by_cases k11:kind=11
 ·rw [kI (by simp [k11])]
  refine kFY hx (by simp [h7]) a1 a2 (q9 (.inr k11)) fun σ' w' hfr hm'=>?_
  simp only [kR]
  refine hQ σ' w' (fun k hk=>?_) hm'
  rw [hfr k (by omega)]
  simp only [updo,upd]
  repeat rw [if_neg (by omega)]
 rw [kG (by simp [k11])]
 unfold ir_sUsual_4
 rw [wpC_seq,kD]
 refine go1 (v:=.bool (kind==10)) rfl (by simp) ?_
 refine go1 (v:=.bool (kind==10)) rfl (by simp) (kP ?_)
 simp only [kF]
 by_cases k10:kind=10
 ·rw [kI (by simp [k10]),wpC_seq]
  refine kN9 hf hx (by simp [h6]) (by simp [h7]) f1 f2 hrx0 hU (q10 k10).1 (q10 k10).2 fun σ' w' hfr h87 hm'=>?_
  simp only [kF]
  rw [kG (by simp [h87]),wpC_skip]
  simp only [kR]
  refine hQ σ' w' (fun k hk=>?_) hm'
  rw [hfr k (by omega)]
  simp only [updo,upd]
  repeat rw [if_neg (by omega)]
 rw [kG (by simp [k10]),wpC_seq]
 show wpD P _ [] _ w.drew _
 have hmd:Mod [] w w.drew:=Mod.drew _ _
 have d6:=fun k=>(hf.mod hmd (by simp)).cell k
 have d7:=fun k=>(hx.mod hmd (by simp)).cell k
 refine zM (fun i v w'=>match i with|6=>v=.int .i64 (yL kind dfl)|_=>True) (by
  intro i v w w' h hm
  split at h
  ·exact h
  ·trivial) ?_
 refine bo1 (v:=.pointer (some ⟨xb,0,none⟩)) rfl (by simp [h7]) ?_
 refine bo1 (v:=.int .i64 n) rfl (by simp [d7]) ?_
 refine bo1 (v:=.pointer (some ⟨fb,0,none⟩)) rfl (by simp [h6]) ?_
 refine bo1 (v:=.int .i64 kind) rfl (by simp [d6]) ?_
 refine bo1 (v:=.pointer (some ⟨fb,5,none⟩)) rfl (by simp [h6]) ?_
 refine bo1 (v:=.int .i64 dfl) rfl (by simp [d6]) ?_
 refine jB (vs:=[.int .i64 kind,.int .i64 dfl]) rfl (by simp) (fun w' hm' _=>(kE0 hm hnum).mono ?_) ?_
 ·rintro e w'' ⟨rfl,rfl⟩
  exact ⟨_,rfl,Mod.refl _ _,rfl⟩
 rintro v ⟨wv,ev'⟩
 have ev':v=.int .i64 (yL kind dfl):=ev'
 subst ev'
 refine bo1 (v:=.bool false) rfl (by simp [qn k7 k8 k9 k10 k11]) ?_
 intro w' hm' hkn
 refine kP ?_
 simp only [kF]
 rw [kG (by simp),wpC_skip]
 simp only [kR]
 refine hQ _ w' (fun k hk=>?_) (hmd.trans hm')
 simp only [updo,upd]
 repeat rw [if_neg (by omega)]
theorem kFZ :∀{fds:List FD} {i:Nat} {x:TR} {j:Nat} {f:FD},kFX fds i x→fds[j]?=some f→f.kAY (x.at (i+j))
 | f0::fds,i,x,0,f,h,hj=>by
   simp only [List.getElem?_cons_zero,Option.some.injEq] at hj
   subst hj;exact h.1
 | f0::fds,i,x,j+1,f,h,hj=>by
   have:=kFZ h.2 (by simpa using hj)
   rwa [show i+(j+1)=i+1+j by omega]
theorem kBE (hm:P.follows .mixedOrders=true) (h:kH P (F kFE)=some (ir_sUsual F)) (hat:kH P (F sAt)=some (ir_sAt F)) (hs:kH P (F vW)=some (ir_sSame F)) (hnum:kH P (F kBO)=some kB6) {fds:List FD} (hlen:fds.length<1000) (hU :∀f∈fds,kA0 P F f.sub):kA0 P F fds:=by
 intro w sv css x xs hsv hr hx hu hd
 unfold ir_sUsual at h
 refine kT h hm (by simp) ?_
 clear h
 have h5:=hx.five
 obtain ⟨sb,sc,es⟩:=hsv.shape
 rw [wpC_seq,kD]
 refine wB (v:=.agg xs.toArray) (by simp) fun w1 hb1 hm1=>?_
 have hb1:Blk w1 w.heap.size xs:=by simpa using hb1
 refine go1 (v:=.bool false) rfl (by simp) (kP ?_)
 simp only [kF]
 have c1:=fun k=>hb1.cell k
 obtain ⟨uv,euv⟩ :∃uv:Value,xs[4]?=some uv ∧∃b c,uv=.slice b 0 c:=by
  cases hx with
  | @mk n s xn l u xv lv uv tss uss a1 a2 a3 a4 a5 =>
    simp only [TR.u] at hu
    subst hu
    obtain ⟨b,c,e⟩:=a4.shape
    exact ⟨uv,rfl,b,c,e⟩
 obtain ⟨euv,ub,uc,rfl⟩:=euv
 rw [wpC_seq,wpC_seq,kD]
 refine go1 (v:=.pointer (some ⟨w.heap.size,4,none⟩)) rfl (by simp) ?_
 refine go1 (v:=.slice ub 0 uc) rfl (by simp [c1,euv]) ?_
 refine go1 (v:=.int .i64 (0:Nat)) rfl (by simp) ?_
 refine go1 (v:=.bool false) rfl (by simp) (kP ?_)
 simp only [kF]
 rw [kG (by simp),wpC_skip]
 simp only [kF]
 rw [wpC_seq,wpC_seq,kD]
 refine go1 (v:=sv) rfl (by simp) ?_
 refine go1 (v:=.int .i64 (fds.length:Nat)) rfl (by simp [es]) ?_
 refine go1 (v:=.int .i64 (0:Nat)) rfl (by simp) (kP ?_)
 simp only [kF]
 refine rangeLoop (n:=fds.length) (fun j σ w'=>σ 3=.pointer (some ⟨w.heap.size,0,none⟩)∧σ 12=sv∧σ 14=.int .i64 (j:Nat)∧σ 13=.int .i64 (fds.length:Nat)∧Mod [] w1 w') (by omega) (by omega) (fun j σ w h=>⟨h.2.2.1,h.2.2.2.1⟩) ?_ ?_ ?_
 ·exact ⟨by simp,by simp,by simp,by simp,Mod.refl _ _⟩
 ·rintro j σ w2 hj ⟨k3,k12,k14,k13,hm2⟩
  obtain ⟨fd,hfd⟩ :∃f,fds[j]?=some f:=⟨fds[j],by simp [hj]⟩
  obtain ⟨cs,hcs,hrep⟩:=hr.nth hfd
  obtain ⟨a,c,ea,hjn,hcell⟩:=hsv.flat hr.length hr.eight hcs
  have hm02:=hm1.trans hm2
  have hcell2:kV w2 (a.add (j*8)) 0 8=some cs:=qA hm02.below _ _ _ hcell
  rw [es] at ea
  simp only [Value.slice.injEq,true_and] at ea
  obtain ⟨ea,ec⟩:=ea
  subst ea
  unfold ir_sUsual_6
  rw [wpC_seq,kD]
  refine go1 (v:=.int .i64 (j:Nat)) rfl (by simp [k14]) ?_
  refine go1 (v:=.pointer (some (a.add (j*8)))) rfl (by simp [k12,es,k14,hj]) ?_
  refine go1 (v:=.agg cs.toArray) rfl (by simp [hcell2]) ?_
  refine jI fun w3 hb3 hm3=>?_
  refine go1 (v:=.int .i64 (j:Nat)) rfl (by simp) ?_
  refine goSt (b:=w2.heap.size) (v:=.agg cs.toArray) (by simp) (by simp) hb3 (by simpa using hrep.eight) rfl (by simpa using hrep.oneCell) fun w4 hb4 hm4=>kP ?_
  simp only [kF]
  have hb4:Blk w4 w2.heap.size cs:=by simpa using hb4
  have hm24:Mod [] w2 w4:=Mod.drop (b:=w2.heap.size) (S:=[]) (hm3.nil.trans hm4) (Nat.le_refl _)
  have hm14:Mod [] w1 w4:=hm2.trans hm24
  have hld:=kJ (hb1.mod hm14 (by simp)).cells h5
  rw [wpC_seq,kD]
  refine go1 (v:=.agg xs.toArray) rfl (by simp [k3,hld]) ?_
  refine go1 (v:=.int .i64 (j:Nat)) rfl (by simp) ?_
  refine qF rfl (vs:=[.agg xs.toArray,.int .i64 (j:Nat)]) (by simp) (kAP hm hat (hx.keep (hm1.trans hm14))) ?_
  rintro e w5 ⟨ys,rfl,hy,hm5⟩
  refine ⟨_,rfl,?_⟩
  refine jI fun w6 hb6 hm6=>?_
  refine goSt (b:=w5.heap.size) (v:=.agg ys.toArray) (by simp) (by simp) hb6 (by simpa using hy.five) rfl (by simpa using hy.oneCell) fun w7 hb7 hm7=>kP ?_
  simp only [kF]
  have hb7:Blk w7 w5.heap.size ys:=by simpa using hb7
  have hm57:Mod [] w5 w7:=Mod.drop (b:=w5.heap.size) (S:=[]) (hm6.nil.trans hm7) (Nat.le_refl _)
  have hm47:=hm5.trans hm57
  have hm17:=hm14.trans hm47
  refine kKD hm hs hnum (hb4.mod hm47 (by simp)) hb7 (hrep.keep (hm1.trans hm17)) (hy.keep hm57) (by simp) (by simp) (hU fd (List.mem_of_getElem? hfd)) (by have:=kFZ hd hfd;simpa using this) fun σ' w' hfr hm'=>?_
  have hv :∀s,s<16→s≠15→s≠5→s≠6→s≠7→σ' s=σ s:=fun s h1 h2 h3 h4 h5=>by
   rw [hfr s (by omega)];simp only [updo,upd];repeat rw [if_neg (by omega)]
  refine ⟨by rw [hv 14 (by omega) (by omega) (by omega) (by omega) (by omega)];exact k14,?_,?_,by simp,?_,hm17.trans hm'⟩
  ·simp only [upd];rw [if_neg (by omega),if_neg (by omega),hv 3 (by omega) (by omega) (by omega) (by omega) (by omega)];exact k3
  ·simp only [upd];rw [if_neg (by omega),if_neg (by omega),hv 12 (by omega) (by omega) (by omega) (by omega) (by omega)];exact k12
  ·simp only [upd];rw [if_neg (by omega),if_neg (by omega),hv 13 (by omega) (by omega) (by omega) (by omega) (by omega)];exact k13
 ·rintro σ w2 ⟨k3,k12,k14,k13,hm2⟩
  simp only [kF]
  rw [wpC_seq,kD]
  refine go1 (v:=.bool true) rfl (by simp) (kP ?_)
  simp only [kF]
  exact ret1 (v:=.bool true) (by simp) ⟨rfl,hm1.trans hm2⟩
end
theorem kDL (fs:List FD) (u:List (Nat×List UInt8)):(kU fs u).length≤32767:=by
 have gen :∀(v acc:List (Nat×List UInt8)),(v.foldl (zS (qN fs)) acc).length≤acc.length+v.length:=by
  intro v
  induction v with
  | nil=>intro acc;simp
  | cons p v ih =>
    intro acc
    simp only [List.foldl_cons,List.length_cons]
    have h1:=ih (zS (qN fs) acc p)
    have h2:(zS (qN fs) acc p).length≤acc.length+1:=by
     unfold zS
     split
     ·omega
     ·exact kG2 acc
    omega
 have:=gen (u.take 32767) []
 unfold kU
 simp only [List.length_nil,Nat.zero_add] at this
 refine Nat.le_trans this ?_
 simp;omega
section
variable {P:Program} {F:Nat→Nat}
attribute [local simp] gOk updo upd ev RK.val? kL kM Addr.kK qE Value.cells undef
theorem kK7 (hm:P.follows .mixedOrders=true) (hh:kH P (F sHas)=some (ir_sHas F)) {w:World} {fb:Nat} {f:FD} {fcs:List Value} {ver:Int} {σ:Sl} {Q:Exit→Sl→World→Prop} (hb:Blk w fb fcs) (hr:RepF anyB w f fcs) (htag:f.tag<0) (h1:σ 1=.int .i64 ver) (h12:σ 12=.pointer (some ⟨fb,0,none⟩))
  (hQ :∀σ' w',(∀s,s<33→σ' s=σ s)→σ' 54=.bool (f.hasV ver)→Mod [] w w'→Q .normal σ' w'):wpC P (ir_sTold_1 F) Q σ w:=by
 unfold ir_sTold_1
 have hr0:=hr
 have h8:=hr.eight
 cases hr with
 | @mk kind frm to null tag dfl of sub sv css f1 f2 =>
 simp only [FD.tag] at htag
 have c1:=fun k=>hb.cell k
 have hld:=kJ hb.cells h8
 have et:decide (tag<0)=true:=by simp [htag]
 rw [kD]
 refine go1 (v:=.pointer (some ⟨fb,4,none⟩)) rfl (by simp [h12]) ?_
 refine go1 (v:=.int .i64 tag) rfl (by simp [c1]) ?_
 refine go1 (v:=.bool true) rfl (by simp [et]) ?_
 refine go1 (v:=.bool true) rfl (by simp) ?_
 refine go1 (v:=.agg #[.int .i64 kind,.int .i64 frm,.int .i64 to,.int .i64 null,.int .i64 tag,.int .i64 dfl,.int .i64 of,sv]) (by simp) (by simp [h12,hld]) ?_
 refine go1 (v:=.int .i64 ver) (by simp) (by simp [h1]) ?_
 refine qF (by simp) (vs:=[.agg #[.int .i64 kind,.int .i64 frm,.int .i64 to,.int .i64 null,.int .i64 tag,.int .i64 dfl,.int .i64 of,sv],.int .i64 ver]) (by simp) (kGU hm hh hr0) ?_
 rintro e w' ⟨rfl,hm'⟩
 refine ⟨_,rfl,?_⟩
 have c2:=fun k=>(hb.mod hm' (by simp)).cell k
 show wpR P _ (updo _ (some 39) (.bool ((FD.mk kind frm to null tag dfl of sub).hasV ver))) w' _
 generalize (FD.mk kind frm to null tag dfl of sub).hasV ver=hv at hQ ⊢
 refine go1 (v:=.bool hv) rfl (by simp) ?_
 refine go1 (v:=.bool hv) rfl (by simp) ?_
 cases hv with
 | true =>
   iterate 12 (refine go0 (by simp) ?_)
   refine go1 (v:=.bool true) rfl (by simp) (kP ?_)
   refine hQ _ w' (fun s hs=>?_) (by simp) hm'
   simp only [updo,upd]
   repeat rw [if_neg (by omega)]
 | false =>
   refine go1 (v:=.pointer (some ⟨fb,4,none⟩)) (by simp) (by simp [h12]) ?_
   refine go1 (v:=.int .i64 tag) (by simp) (by simp [c2]) ?_
   refine go1 (v:=.bool false) (by simp) (by simp;omega) ?_
   refine go1 (v:=.bool false) (by simp) (by simp) ?_
   refine go0 (by simp) ?_
   refine go1 (v:=.bool false) (by simp) (by simp) ?_
   refine go1 (v:=.bool false) (by simp) (by simp) ?_
   iterate 4 (refine go0 (by simp) ?_)
   refine go1 (v:=.bool false) (by simp) (by simp) ?_
   refine go1 (v:=.bool false) rfl (by simp) (kP ?_)
   refine hQ _ w' (fun s hs=>?_) (by simp) hm'
   simp only [updo,upd]
   repeat rw [if_neg (by omega)]
theorem kK8 {w:World} {fb tb gb j n c:Nat} {f:FD} {x y:TR} {fcs xcs ycs gcs:List Value} {ver:Int} {flex:Bool} {a:Addr} {σ:Sl} {Q:Exit→Sl→World→Prop} (hf:Blk w fb fcs) (ht:Blk w tb xcs) (hg:Blk w gb gcs) (hrf:RepF anyB w f fcs) (hrx:RepT anyB w x xcs) (hry:RepT anyB w y ycs)
  (h1:σ 1=.int .i64 ver) (h2:σ 2=.bool flex) (h9:σ 9=.pointer (some ⟨gb,0,none⟩)) (h11:σ 11=.int .i64 (j:Nat)) (h12:σ 12=.pointer (some ⟨fb,0,none⟩)) (h13:σ 13=.pointer (some ⟨tb,0,none⟩)) (hg3:gcs[3]?=some (.slice (some a) n c)) (hj:j<n) (hcell:kV w (a.add (j*5)) 0 5=some ycs)
  (hT:kBI P F ver flex f) (htd:f.kAZ ver flex x y) (hQ :∀σ' w',(∀s,s<55→σ' s=σ s)→Mod [] w w'→Q .normal σ' w'):wpC P (ir_sTold_2 F) Q σ w:=by
 unfold ir_sTold_2
 rw [wpC_seq]
 show wpD P _ [] _ w.drew _
 have hmd:Mod [] w w.drew:=Mod.drew _ _
 have hl1:=kJ (hf.mod hmd (by simp)).cells hrf.eight
 have hl2:=kJ (ht.mod hmd (by simp)).cells hrx.five
 have c9:=fun k=>(hg.mod hmd (by simp)).cell k
 have hc:=qA hmd.below _ _ _ hcell
 refine zM (fun i v w'=>match i with|9=>v=.bool true|_=>True) (by
  intro i v w w' h hm
  split at h
  ·exact h
  ·trivial) ?_
 refine bo1 (v:=.agg fcs.toArray) rfl (by simp [h12,hl1]) ?_
 refine bo1 (v:=.int .i64 ver) rfl (by simp [h1]) ?_
 refine bo1 (v:=.bool flex) rfl (by simp [h2]) ?_
 refine bo1 (v:=.agg xcs.toArray) rfl (by simp [h13,hl2]) ?_
 refine bo1 (v:=.pointer (some ⟨gb,3,none⟩)) rfl (by simp [h9]) ?_
 refine bo1 (v:=.slice (some a) n c) rfl (by simp [c9,hg3]) ?_
 refine bo1 (v:=.int .i64 (j:Nat)) rfl (by simp [h11]) ?_
 refine bo1 (v:=.pointer (some (a.add (j*5)))) rfl (by simp [hj]) ?_
 refine bo1 (v:=.agg ycs.toArray) rfl (by simp [hc]) ?_
 refine jB (vs:=[.agg fcs.toArray,.int .i64 ver,.bool flex,.agg xcs.toArray,.agg ycs.toArray]) rfl (by simp) (fun w' hm' _=>(hT w' fcs x xcs y ycs (hrf.keep (hmd.trans hm')) (hrx.keep (hmd.trans hm')) (hry.keep (hmd.trans hm')) htd).mono ?_) ?_
 ·rintro e w'' ⟨rfl,hm2⟩
  exact ⟨_,rfl,hm2,rfl⟩
 rintro v ⟨wv,ev'⟩
 have ev':v=.bool true:=ev'
 subst ev'
 refine bo1 (v:=.bool false) rfl (by simp) ?_
 intro w' hm' hkn
 refine kP ?_
 simp only [kF]
 rw [kG (by simp),wpC_skip]
 refine hQ _ w' (fun s hs=>?_) (hmd.trans hm')
 simp only [updo,upd]
 repeat rw [if_neg (by omega)]
theorem kOA {w:World} {x:Operand} {n:Nat} {z cs:List Value} {σ:Sl} {Φ:Value→World→Prop} (hx:(ev σ x).cells.toList=cs) (hn:cs.length=n) (hz:z.length=n) (h :∀w',Blk w' w.heap.size cs→Mod [] w w'→Φ (.slice (some ⟨w.heap.size,0,none⟩) 1 1) w') :
  (RK.bslice 1 z [(0,n,x)]).run P σ w fun v w'=>Mod [] w w'∧Φ v w':=by
 have hl:(ev σ x).cells.size=n:=by rw [←hn,←hx];simp
 have e1:zW (zrep 1 z) [(0,n,ev σ x)]=some cs:=by
  simp only [zW,zrep,List.replicate,List.flatten_cons,List.flatten_nil,List.append_nil]
  rw [if_pos ⟨hl,by omega⟩,hx]
  simp [splice,hn,hz]
 simp only [RK.run,List.map_cons,List.map_nil,e1]
 intro T
 exact ⟨Mod.alloc _ _ _,h _ (Blk.new w _ T) (Mod.alloc _ _ _)⟩
theorem kOB {w:World} {fb gb j n c:Nat} {f:FD} {y:TR} {fcs ycs gcs:List Value} {a:Addr} {σ:Sl} {Q:Exit→Sl→World→Prop} (hf:Blk w fb fcs) (hg:Blk w gb gcs) (hrf:RepF anyB w f fcs) (hry:RepT anyB w y ycs)
  (h9:σ 9=.pointer (some ⟨gb,0,none⟩)) (h11:σ 11=.int .i64 (j:Nat)) (h12:σ 12=.pointer (some ⟨fb,0,none⟩)) (hg3:gcs[3]?=some (.slice (some a) n c)) (hj:j<n) (hcell:kV w (a.add (j*5)) 0 5=some ycs)
  (hU:kA0 P F [f]) (htd:f.kAY y) (hQ :∀σ' w',(∀s,s<66→σ' s=σ s)→σ' 76=.bool false→Mod [] w w'→Q .normal σ' w'):wpC P (ir_sTold_3 F) Q σ w:=by
 unfold ir_sTold_3
 show wpD P _ [] _ w.drew _
 have hmd:Mod [] w w.drew:=Mod.drew _ _
 have hl1:=kJ (hf.mod hmd (by simp)).cells hrf.eight
 have c9:=fun k=>(hg.mod hmd (by simp)).cell k
 have hc:=qA hmd.below _ _ _ hcell
 have slc :∀{w':World} {B:Nat} {cs:List Value},Blk w' B cs→SlC anyB w' (.slice (some ⟨B,0,none⟩) 1 1) 1 cs:=fun hb=>⟨_,1,rfl,by omega,by simp,fun a ha _=>by simp only [Option.some.injEq] at ha;subst ha;exact ⟨trivial,hb.lt,hb.cells⟩⟩
 refine zM (fun i v w'=>match i with|1=>SlC anyB w' v 1 fcs|7=>SlC anyB w' v 1 ycs|9=>v=.bool true|_=>True) (by
  intro i v w w' h hm
  split at h
  ·exact h.keep hm
  ·exact h.keep hm
  ·exact h
  ·trivial) ?_
 refine bo1 (v:=.agg fcs.toArray) rfl (by simp [h12,hl1]) ?_
 refine boN rfl (fun w' hm' _=>kOA (cs:=fcs) (by simp) hrf.eight rfl fun w'' hb hmm=>slc hb) ?_
 rintro v1 ⟨wv1,hv1⟩
 have hv1:SlC anyB wv1 v1 1 fcs:=hv1
 refine bo1 (v:=.pointer (some ⟨gb,3,none⟩)) rfl (by simp [h9]) ?_
 refine bo1 (v:=.slice (some a) n c) rfl (by simp [c9,hg3]) ?_
 refine bo1 (v:=.int .i64 (j:Nat)) rfl (by simp [h11]) ?_
 refine bo1 (v:=.pointer (some (a.add (j*5)))) rfl (by simp [hj]) ?_
 refine bo1 (v:=.agg ycs.toArray) rfl (by simp [hc]) ?_
 refine boN rfl (fun w' hm' _=>kOA (cs:=ycs) (by simp) hry.five rfl fun w'' hb hmm=>slc hb) ?_
 rintro v7 ⟨wv7,hv7⟩
 have hv7:SlC anyB wv7 v7 1 ycs:=hv7
 obtain ⟨b7,c7,e7⟩:=hv7.shape
 refine bo1 (v:=.agg #[.int .i64 0,.slice none 0 0,.bool false,v7,.slice none 0 0]) rfl (by simp [e7,zW,splice]) ?_
 refine jB (vs:=[v1,.agg #[.int .i64 0,.slice none 0 0,.bool false,v7,.slice none 0 0]]) rfl (by simp) (fun w' hm' hkn=>?_) ?_
 ·have k1:=qY (j:=1) (t:=67) hkn (by simp) rfl rfl rfl rfl
  have k7:=qY (j:=7) (t:=73) hkn (by simp) rfl rfl rfl rfl
  have k1:SlC anyB w' v1 1 fcs:=by simpa using k1
  have k7:SlC anyB w' v7 1 ycs:=by simpa using k7
  refine (hU w' v1 [fcs] (.mk 0 [] false [y] []) [.int .i64 0,.slice none 0 0,.bool false,v7,.slice none 0 0] (by simpa using k1) (.cons (hrf.keep (hmd.trans hm')) .nil)
   (.mk (css:=[ycs]) (uss:=[]) SlC.nil (by simpa using k7) (.cons (hry.keep (hmd.trans hm')) .nil) SlC.nil .nil) rfl ⟨by simpa [TR.at,TR.l] using htd,trivial⟩).mono ?_
  rintro e w'' ⟨rfl,hmm⟩
  exact ⟨_,rfl,hmm,rfl⟩
 rintro v ⟨wv,ev'⟩
 have ev':v=.bool true:=ev'
 subst ev'
 refine bo1 (v:=.bool false) rfl (by simp) ?_
 intro w' hm' hkn
 refine kP (hQ _ w' (fun s hs=>?_) (by simp) (hmd.trans hm'))
 simp only [updo,upd]
 repeat rw [if_neg (by omega)]
end
section
variable {P:Program} {F:Nat→Nat}
attribute [local simp] gOk updo upd ev RK.val? kL kM Addr.kK qE Value.cells undef
theorem kP8 (hm : P.follows .mixedOrders = true) (hw : kH P (F yR) = some (ir_sWhole F)) (hs : kH P (F vW) = some (ir_sSame F)) {w : World} {gb ub j n c k : Nat} {gcs : List Value} {a : Addr} {kv vv uv : Value} {b : List UInt8} {σ : Sl} {Q : Exit → Sl → World → Prop}
    (hg : Blk w gb gcs) (hub : Blk w ub [.int .u32 k, uv]) (huv : SlC anyB w uv b.length (u8s b)) (hvv : SlC anyB w vv (kN b).length (u8s (kN b))) (h9 : σ 9 = .pointer (some ⟨gb, 0, none⟩)) (h15 : σ 15 = .int .i64 (j : Nat)) (h16 : σ 16 = .pointer (some ⟨ub, 0, none⟩)) (hg4 : gcs[4]? = some (.slice (some a) n c)) (hj : j < n)
    (hcell : Cells w ⟨a.block, a.off + j * 2, none⟩ [kv, vv]) (ha : a.spot = none) (hkv : kv = .int .u32 k) (hQ : ∀ σ' w', (∀ s, s < 97 → σ' s = σ s) → σ' 118 = .bool false → Mod [] w w' → Q .normal σ' w') : wpC P (ir_sTold_5 F) Q σ w := by
  unfold ir_sTold_5
  subst hkv
  show wpD P _ [] _ w.drew _
  have hmd : Mod [] w w.drew := Mod.drew _ _
  have c9 := fun k => (hg.mod hmd (by simp)).cell k
  have c16 := fun k => (hub.mod hmd (by simp)).cell k
  obtain ⟨ab, ao, as⟩ := a
  simp only at ha hcell
  subst ha
  have hc := hcell.mod hmd (.inr (by simp))
  have q0 : w.drew.cell? ⟨ab, ao + j * 2, none⟩ = some (.int .u32 k) := hc.head
  have q1 : w.drew.cell? ⟨ab, ao + j * 2 + 1, none⟩ = some vv := hc.2 1 vv rfl
  refine zM (fun i v w' => match i with | 18 => SlC anyB w' v (kN b).length (u8s (kN b)) | 19 => v = .bool true | _ => True) (by
    intro i v w w' h hm
    split at h
    · exact h.keep hm
    · exact h
    · trivial) ?_
  refine bo1 (v := .pointer (some ⟨gb, 4, none⟩)) rfl (by simp [h9]) ?_
  refine bo1 (v := .slice (some ⟨ab, ao, none⟩) n c) rfl (by simp [c9, hg4]) ?_
  refine bo1 (v := .int .i64 (j : Nat)) rfl (by simp [h15]) ?_
  refine bo1 (v := .pointer (some ⟨ab, ao + j * 2, none⟩)) rfl (by simp [hj]) ?_
  refine bo1 (v := .pointer (some ⟨ab, ao + j * 2, none⟩)) rfl (by simp) ?_
  refine bo1 (v := .int .u32 k) rfl (by simp [q0]) ?_
  refine bo1 (v := .pointer (some ⟨ub, 0, none⟩)) rfl (by simp [h16]) ?_
  refine bo1 (v := .int .u32 k) rfl (by simp [c16]) ?_
  refine bo1 (v := .bool false) rfl (by simp) ?_
  refine bo1 (v := .bool false) rfl (by simp) ?_
  refine bo1 (v := .pointer (some ⟨gb, 4, none⟩)) (by simp) (by simp [h9]) ?_
  refine bo1 (v := .slice (some ⟨ab, ao, none⟩) n c) (by simp) (by simp [c9, hg4]) ?_
  refine bo1 (v := .int .i64 (j : Nat)) (by simp) (by simp [h15]) ?_
  refine bo1 (v := .pointer (some ⟨ab, ao + j * 2, none⟩)) (by simp) (by simp [hj]) ?_
  refine bo1 (v := .pointer (some ⟨ab, ao + j * 2 + 1, none⟩)) (by simp) (by simp) ?_
  refine bo1 (v := vv) (by simp) (by simp [q1]) ?_
  refine bo1 (v := .pointer (some ⟨ub, 1, none⟩)) (by simp) (by simp [h16]) ?_
  refine bo1 (v := uv) (by simp) (by simp [c16]) ?_
  refine jB (vs := [uv]) (by simp) (by simp) (fun w' hm' _ => (wQ hm hw (huv.keep (hmd.trans hm'))).mono ?_) ?_
  · rintro e w'' ⟨rfl, v', rfl, hv⟩
    exact ⟨_, rfl, Mod.refl _ _, hv⟩
  rintro v ⟨wv, -⟩
  refine jB (vs := [vv, v]) (by simp) (by simp) (fun w' hm' hkn => ?_) ?_
  · have k4 := qY (j := 18) (t := 115) hkn (by simp) rfl rfl (by simp) rfl
    have k4 : SlC anyB w' v (kN b).length (u8s (kN b)) := by simpa using k4
    refine (kAM hm hs (hvv.keep (hmd.trans hm')) k4 (by have := jC b; omega)).mono ?_
    rintro e w'' ⟨rfl, hmm⟩
    exact ⟨_, rfl, hmm, by simp⟩
  rintro v2 ⟨wv', ev'⟩
  have ev' : v2 = .bool true := ev'
  subst ev'
  refine bo1 (v := .bool false) (by simp) (by simp) ?_
  refine bo1 (v := .bool false) rfl (by simp) ?_
  intro w' hm' hkn
  refine kP (hQ _ w' (fun s hs => ?_) (by simp) (hmd.trans hm'))
  simp only [updo, upd]
  repeat rw [if_neg (by omega)]
theorem kIY (hm : P.follows .mixedOrders = true) (hw : kH P (F yR) = some (ir_sWhole F)) (hs : kH P (F vW) = some (ir_sSame F)) {w : World} {gb : Nat} {gcs : List Value} {lv guv : Value} {L gu : List (Nat × List UInt8)} {ucs guss : List (List Value)} {σ : Sl} {Q : Exit → Sl → World → Prop}
    (hg : Blk w gb gcs) (h9 : σ 9 = .pointer (some ⟨gb, 0, none⟩)) (h14 : σ 14 = lv) (hg4 : gcs[4]? = some guv) (hlv : SlC anyB w lv L.length ucs.flatten) (hL : RepU anyB w L ucs) (hgv : SlC anyB w guv gu.length guss.flatten) (hG : RepU anyB w gu guss) (hlen : L.length ≤ 32767) (he : gu = zT L)
    (hQ : ∀ σ' w', Mod [] w w' → Q .normal σ' w') : wpC P (ir_sTold_6 F) Q σ w := by
  unfold ir_sTold_6
  obtain ⟨lb, lc, el⟩ := hlv.shape
  have hgl : gu.length = L.length := by rw [he]; simp [zT]
  rw [wpC_seq, kD]
  refine go1 (v := lv) rfl (by simp [h14]) ?_
  refine go1 (v := .int .i64 (L.length : Nat)) rfl (by simp [el]) ?_
  refine go1 (v := .int .i64 (0 : Nat)) rfl (by simp) (kP ?_)
  simp only [kF]
  refine rangeLoop (n := L.length) (fun j σ w' => σ 9 = .pointer (some ⟨gb, 0, none⟩) ∧ σ 90 = lv ∧ σ 92 = .int .i64 (j : Nat) ∧ σ 91 = .int .i64 (L.length : Nat) ∧ Mod [] w w') (by omega) (by omega) (fun j σ w h => ⟨h.2.2.1, h.2.2.2.1⟩) ?_ ?_ ?_
  · exact ⟨by simp [h9], by simp, by simp, by simp, Mod.refl _ _⟩
  · rintro j σ w2 hj ⟨k9, k90, k92, k91, hm2⟩
    obtain ⟨p, hp⟩ : ∃ p, L[j]? = some p := ⟨_, List.getElem?_eq_getElem hj⟩
    have hq : gu[j]? = some (p.1, kN p.2) := by rw [he]; simp [zT, hp]
    obtain ⟨uv, hu1, hu2⟩ := hL.nth hp
    obtain ⟨vv, hv1, hv2⟩ := hG.nth hq
    obtain ⟨base, cap, e1, e2, e3, e4⟩ := hlv
    obtain ⟨base2, cap2, f1, f2, f3, f4⟩ := hgv
    cases base with
    | none => have := e3 rfl; omega
    | some a =>
    cases base2 with
    | none => have := f3 rfl; omega
    | some a2 =>
    obtain ⟨-, -, q3⟩ := e4 a rfl (by omega)
    obtain ⟨-, -, r3⟩ := f4 a2 rfl (by omega)
    obtain ⟨ab, ao, as⟩ := a
    obtain ⟨gb2, go, gs⟩ := a2
    have ea : as = none := q3.1
    have ea2 : gs = none := r3.1
    subst ea; subst ea2
    have hce := (q3.each hL.two hu1).mod hm2 (.inr (by simp))
    have hcg := (r3.each hG.two hv1).mod hm2 (.inr (by simp))
    have hld := kJ hce (show [Value.int .u32 (p.1 : Nat), uv].length = 2 from rfl)
    have hu2' := hu2.keep hm2
    rw [e1] at k90
    rw [f1] at hg4
    rw [wpC_seq, kD]
    refine go1 (v := .int .i64 (j : Nat)) rfl (by simp [k92]) ?_
    refine go1 (v := .pointer (some ⟨ab, ao + j * 2, none⟩)) rfl (by simp [k90, k92, hj]) ?_
    refine go1 (v := .agg #[.int .u32 (p.1 : Nat), uv]) rfl (by simp [hld]) ?_
    refine jI fun w3 hb3 hm3 => ?_
    refine go1 (v := .int .i64 (j : Nat)) rfl (by simp) ?_
    refine goSt (b := w2.heap.size) (v := .agg #[.int .u32 (p.1 : Nat), uv]) (by simp) (by simp) hb3 (by simp) rfl (by
      intro y hy
      simp only [Value.cells, List.mem_cons, List.not_mem_nil, or_false] at hy
      rcases hy with rfl | rfl
      · rfl
      · exact hu2.one) fun w4 hb4 hm4 => kP ?_
    simp only [kF]
    have hb4 : Blk w4 w2.heap.size [.int .u32 (p.1 : Nat), uv] := by simpa using hb4
    have hm24 : Mod [] w2 w4 := Mod.drop (b := w2.heap.size) (S := []) (hm3.nil.trans hm4) (Nat.le_refl _)
    rw [wpC_seq]
    refine kP8 hm hw hs (gb := gb) (j := j) (hg.mod (hm2.trans hm24) (by simp)) hb4 (hu2.keep (hm2.trans hm24)) (hv2.keep (hm2.trans hm24)) (by simp [k9]) (by simp) (by simp) hg4 (by omega) (hcg.mod hm24 (.inr (by simp))) rfl rfl fun σ' w' hfr h118 hm' => ?_
    simp only [kF]
    rw [kG (by simp [h118]), wpC_skip]
    have hv : ∀ s, s < 94 → s ≠ 93 → s ≠ 15 → s ≠ 16 → σ' s = σ s := fun s h1 h2 h3 h4 => by
      rw [hfr s (by omega)]; simp only [updo, upd]; repeat rw [if_neg (by omega)]
    refine ⟨by rw [hv 92 (by omega) (by omega) (by omega) (by omega)]; exact k92, ?_, ?_, by simp, ?_, (hm2.trans hm24).trans hm'⟩
    · simp only [upd]; rw [if_neg (by omega), if_neg (by omega), hv 9 (by omega) (by omega) (by omega) (by omega)]; exact k9
    · simp only [upd]; rw [if_neg (by omega), if_neg (by omega), hv 90 (by omega) (by omega) (by omega) (by omega), k90, e1]
    · simp only [upd]; rw [if_neg (by omega), if_neg (by omega), hv 91 (by omega) (by omega) (by omega) (by omega)]; exact k91
  · rintro σ w2 ⟨-, -, -, -, hm2⟩
    exact hQ _ w2 hm2
theorem kIZ {ver:Int} {flex:Bool} :∀{fds:List FD} {i:Nat} {t:TR} {gl:List TR},wI ver flex fds i t gl→gl.length=fds.length
 | [],i,t,gl,h=>by simp only [wI] at h;subst h;rfl
 | f::fds,i,t,gl,h=>by
   simp only [wI] at h
   obtain ⟨g,r,rfl,-,-,h⟩:=h
   simp [kIZ h]
theorem kI0 {ver:Int} {flex:Bool} :∀{fds:List FD} {i:Nat} {t:TR} {gl:List TR} {j:Nat} {f:FD} {g:TR},wI ver flex fds i t gl→fds[j]?=some f→gl[j]?=some g→(f.hasV ver=true→f.kAZ ver flex (t.at (i+j)) g)∧(f.hasV ver=false→f.kAY g)
 | f0::fds,i,t,gl,0,f,g,h,hf,hg=>by
   simp only [wI] at h
   obtain ⟨g0,r,rfl,h1,h2,-⟩:=h
   simp only [List.getElem?_cons_zero,Option.some.injEq] at hf hg
   subst hf;subst hg
   exact ⟨h1,h2⟩
 | f0::fds,i,t,gl,j+1,f,g,h,hf,hg=>by
   simp only [wI] at h
   obtain ⟨g0,r,rfl,-,-,h⟩:=h
   have:=kI0 h (by simpa using hf) (by simpa using hg)
   rwa [show i+(j+1)=i+1+j by omega]
theorem kI1 (hm:P.follows .mixedOrders=true) (h:kH P (F kHV)=some (ir_sTold F)) (hat:kH P (F sAt)=some (ir_sAt F)) (hh:kH P (F sHas)=some (ir_sHas F)) (hw:kH P (F yR)=some (ir_sWhole F)) (hs:kH P (F vW)=some (ir_sSame F)) (hkn:kH P (F vR)=some (ir_sKnown F)) (hun:kH P (F yA)=some (ir_sUnknown F))
  {ver:Int} {flex:Bool} {fds:List FD} (hlen:fds.length<1000) (htag :∀f∈fds,f.tag<0) (hF :∀f∈fds,kBI P F ver flex f) (hU :∀f∈fds,kA0 P F [f]):kN5 P F ver flex fds:=by
 intro w sv css t ts g gs hsv hr ht hg htd
 obtain ⟨htd,hgu⟩:=htd
 have hgl:=kIZ htd
 have ht0:=ht
 have hg0:=hg
 cases ht with
 | @mk n s tn l u tsv lv uv tss uss a1 a2 a3 a4 a5 =>
 cases hg with
 | @mk gn gs' gb' gl gu gsv glv guv gss guss b1 b2 b3 b4 b5 =>
 simp only [TR.l,TR.u] at htd hgu hgl
 unfold ir_sTold at h
 refine kT h hm (by simp) ?_
 clear h
 obtain ⟨sb,sc,es⟩:=hsv.shape
 obtain ⟨gb0,gc0,egl⟩:=b2.shape
 obtain ⟨gu0,gu1,egu⟩:=b4.shape
 rw [wpC_seq,kD]
 refine wB (v:=.agg #[.int .i64 n,tsv,.bool tn,lv,uv]) (by simp) fun w1 hb1 hm1=>?_
 refine wB (v:=.agg #[.int .i64 gn,gsv,.bool gb',glv,guv]) (by simp) fun w2 hb2 hm2=>?_
 refine go1 (v:=.bool false) rfl (by simp) (kP ?_)
 simp only [kF]
 have hb1:Blk w2 w.heap.size [.int .i64 n,tsv,.bool tn,lv,uv]:=Blk.mod (by simpa using hb1) hm2 (by simp)
 have hb2:Blk w2 w1.heap.size [.int .i64 gn,gsv,.bool gb',glv,guv]:=by simpa using hb2
 have hm02:=hm1.trans hm2
 have c2:=fun k=>hb2.cell k
 rw [wpC_seq,wpC_seq,kD]
 refine go1 (v:=.pointer (some ⟨w1.heap.size,3,none⟩)) rfl (by simp) ?_
 refine go1 (v:=glv) rfl (by simp [c2]) ?_
 refine go1 (v:=.int .i64 (gl.length:Nat)) rfl (by simp [egl]) ?_
 refine go1 (v:=sv) rfl (by simp) ?_
 refine go1 (v:=.int .i64 (fds.length:Nat)) rfl (by simp [es]) ?_
 refine go1 (v:=.bool false) rfl (by simp [hgl]) (kP ?_)
 simp only [kF]
 rw [kG (by simp),wpC_skip]
 simp only [kF]
 rw [wpC_seq,wpC_seq,kD]
 refine go1 (v:=sv) rfl (by simp) ?_
 refine go1 (v:=.int .i64 (fds.length:Nat)) rfl (by simp [es]) ?_
 refine go1 (v:=.int .i64 (0:Nat)) rfl (by simp) (kP ?_)
 simp only [kF]
 refine rangeLoop (n:=fds.length) (fun j σ w'=>(σ 0=sv∧σ 1=.int .i64 ver∧σ 2=.bool flex∧σ 8=.pointer (some ⟨w.heap.size,0,none⟩)∧σ 9=.pointer (some ⟨w1.heap.size,0,none⟩)∧σ 23=sv)∧σ 25=.int .i64 (j:Nat)∧σ 24=.int .i64 (fds.length:Nat)∧Mod [] w2 w') (by omega) (by omega) (fun j σ w h=>⟨h.2.1,h.2.2.1⟩) ?_ ?_ ?_
 ·exact ⟨⟨by simp,by simp,by simp,by simp,by simp,by simp⟩,by simp,by simp,Mod.refl _ _⟩
 ·rintro j σ w3 hj ⟨⟨k0,k1,k2,k8,k9,k23⟩,k25,k24,hm3⟩
  have hm03:=hm02.trans hm3
  obtain ⟨fd,hfd⟩ :∃f,fds[j]?=some f:=⟨fds[j],by simp [hj]⟩
  obtain ⟨y,hy⟩ :∃y,gl[j]?=some y:=⟨_,List.getElem?_eq_getElem (by omega)⟩
  obtain ⟨q1,q2⟩:=kI0 htd hfd hy
  rw [Nat.zero_add] at q1
  obtain ⟨cs,hcs,hrep⟩:=hr.nth hfd
  obtain ⟨ycs,hycs,hyr⟩:=b3.nth hy
  obtain ⟨a,c,ea,hjn,hcell⟩:=hsv.flat hr.length hr.eight hcs
  obtain ⟨a2,c2',ea2,hjn2,hcell2⟩:=b2.flat b3.length b3.five hycs
  have hcell':kV w3 (a.add (j*8)) 0 8=some cs:=qA hm03.below _ _ _ hcell
  rw [ea] at k23
  unfold ir_sTold_4
  rw [wpC_seq,kD]
  refine go1 (v:=.int .i64 (j:Nat)) rfl (by simp [k25]) ?_
  refine go1 (v:=.pointer (some (a.add (j*8)))) rfl (by simp [k23,k25,hj]) ?_
  refine go1 (v:=.agg cs.toArray) rfl (by simp [hcell']) ?_
  refine jI fun w4 hb4 hm4=>?_
  refine go1 (v:=.int .i64 (j:Nat)) rfl (by simp) ?_
  refine goSt (b:=w3.heap.size) (v:=.agg cs.toArray) (by simp) (by simp) hb4 (by simpa using hrep.eight) rfl (by simpa using hrep.oneCell) fun w5 hb5 hm5=>kP ?_
  simp only [kF]
  have hb5:Blk w5 w3.heap.size cs:=by simpa using hb5
  have hm35:Mod [] w3 w5:=Mod.drop (b:=w3.heap.size) (S:=[]) (hm4.nil.trans hm5) (Nat.le_refl _)
  have hm25:=hm3.trans hm35
  have hld1:=kJ (hb1.mod hm25 (by simp)).cells (n:=5) rfl
  rw [wpC_seq,kD]
  refine go1 (v:=.agg #[.int .i64 n,tsv,.bool tn,lv,uv]) rfl (by simp [k8,hld1]) ?_
  refine go1 (v:=.int .i64 (j:Nat)) rfl (by simp) ?_
  refine qF rfl (vs:=[.agg #[.int .i64 n,tsv,.bool tn,lv,uv],.int .i64 (j:Nat)]) (by simp) (kAP hm hat (ht0.keep (hm02.trans hm25))) ?_
  rintro e w6 ⟨xs,rfl,hx,hm6⟩
  refine ⟨_,rfl,?_⟩
  refine jI fun w7 hb7 hm7=>?_
  refine goSt (b:=w6.heap.size) (v:=.agg xs.toArray) (by simp) (by simp) hb7 (by simpa using hx.five) rfl (by simpa using hx.oneCell) fun w8 hb8 hm8=>kP ?_
  simp only [kF]
  have hb8:Blk w8 w6.heap.size xs:=by simpa using hb8
  have hm68:Mod [] w6 w8:=Mod.drop (b:=w6.heap.size) (S:=[]) (hm7.nil.trans hm8) (Nat.le_refl _)
  have hm58:=hm6.trans hm68
  have hm28:=hm25.trans hm58
  rw [wpC_seq,wpC_seq]
  refine kK7 (ver:=ver) hm hh (hb5.mod hm58 (by simp)) (hrep.keep (hm02.trans hm28)) (htag fd (List.mem_of_getElem? hfd)) (by simp [k1]) (by simp) fun σ9 w9 hfr9 h54 hm9=>?_
  simp only [kF]
  have hm29:=hm28.trans hm9
  have hm09:=hm02.trans hm29
  have hv9 :∀s,s<26→s≠11→s≠12→s≠13→σ9 s=σ s:=fun s h1 h2 h3 h4=>by
   rw [hfr9 s (by omega)];simp only [updo,upd];repeat rw [if_neg (by omega)]
  have h11:σ9 11=.int .i64 (j:Nat):=by rw [hfr9 11 (by omega)];simp
  have h12:σ9 12=.pointer (some ⟨w3.heap.size,0,none⟩):=by rw [hfr9 12 (by omega)];simp
  have h13:σ9 13=.pointer (some ⟨w6.heap.size,0,none⟩):=by rw [hfr9 13 (by omega)];simp
  have nxt :∀(σ':Sl) (w':World),(∀s,s<26→s≠11→s≠12→s≠13→σ' s=σ s)→Mod [] w2 w'→σ' 25=.int .i64 (j:Nat)∧(fun (j:Nat) (σ:Sl) (w':World)=>(σ 0=sv∧σ 1=.int .i64 ver∧σ 2=.bool flex∧σ 8=.pointer (some ⟨w.heap.size,0,none⟩)∧σ 9=.pointer (some ⟨w1.heap.size,0,none⟩)∧σ 23=sv)∧σ 25=.int .i64 (j:Nat)∧σ 24=.int .i64 (fds.length:Nat)∧Mod [] w2 w') (j+1) (upd (upd σ' 77 (.int .i64 ((j+1:Nat):Int))) 25 (.int .i64 ((j+1:Nat):Int))) w':=by
   intro σ' w' hfr hm'
   refine ⟨by rw [hfr 25 (by omega) (by omega) (by omega) (by omega)];exact k25,⟨?_,?_,?_,?_,?_,?_⟩,by simp,?_,hm'⟩
   all_goals simp only [upd];rw [if_neg (by omega),if_neg (by omega),hfr _ (by omega) (by omega) (by omega) (by omega)]
   ·exact k0
   ·exact k1
   ·exact k2
   ·exact k8
   ·exact k9
   ·rw [k23,ea]
   ·exact k24
  cases hvv:fd.hasV ver with
  | true =>
    rw [hvv] at h54
    rw [kI (by simp [h54]),wpC_seq]
    refine kK8 (hb5.mod (hm58.trans hm9) (by simp)) (hb8.mod hm9 (by simp)) (hb2.mod hm29 (by simp)) (hrep.keep hm09) (hx.keep (hm68.trans hm9)) (hyr.keep hm09) (by rw [hv9 1 (by omega) (by omega) (by omega) (by omega)];exact k1) (by rw [hv9 2 (by omega) (by omega) (by omega) (by omega)];exact k2) (by rw [hv9 9 (by omega) (by omega) (by omega) (by omega)];exact k9) h11 h12 h13
     (by rw [ea2];rfl) hjn2 (qA hm09.below _ _ _ hcell2) (hF fd (List.mem_of_getElem? hfd)) (q1 hvv) fun σ10 w10 hfr10 hm10=>?_
    simp only [kF,wpC,rngP,if_true]
    exact nxt σ10 w10 (fun s h1 h2 h3 h4=>by rw [hfr10 s (by omega)];exact hv9 s h1 h2 h3 h4) (hm29.trans hm10)
  | false =>
    rw [hvv] at h54
    rw [kG (by simp [h54]),wpC_skip]
    simp only [kF]
    rw [wpC_seq]
    refine kOB (hb5.mod (hm58.trans hm9) (by simp)) (hb2.mod hm29 (by simp)) (hrep.keep hm09) (hyr.keep hm09) (by rw [hv9 9 (by omega) (by omega) (by omega) (by omega)];exact k9) h11 h12 (by rw [ea2];rfl) hjn2 (qA hm09.below _ _ _ hcell2) (hU fd (List.mem_of_getElem? hfd)) (q2 hvv) fun σ10 w10 hfr10 h76 hm10=>?_
    simp only [kF]
    rw [kG (by simp [h76]),wpC_skip]
    exact nxt σ10 w10 (fun s h1 h2 h3 h4=>by rw [hfr10 s (by omega)];exact hv9 s h1 h2 h3 h4) (hm29.trans hm10)
 ·rintro σ w3 ⟨⟨k0,k1,k2,k8,k9,k23⟩,k25,k24,hm3⟩
  have hm03:=hm02.trans hm3
  simp only [kF]
  have c1:=fun k=>(hb1.mod hm3 (by simp)).cell k
  rw [wpC_seq,kD]
  refine go1 (v:=sv) rfl (by simp [k0]) ?_
  refine go1 (v:=.pointer (some ⟨w.heap.size,4,none⟩)) rfl (by simp [k8]) ?_
  refine go1 (v:=uv) rfl (by simp [c1]) ?_
  refine qF rfl (vs:=[sv,uv]) (by simp) (vS hm hun hkn (hsv.keep hm03) (hr.keep hm03) (by omega) (fun f hf=>by have:=htag f hf;omega) (a4.keep hm03) (a5.keep hm03)) ?_
  rintro e w4 ⟨lv4,ucs,rfl,hl4,hu4,hm4⟩
  refine ⟨lv4,rfl,go1 (v:=lv4) rfl (by simp) (kP ?_)⟩
  simp only [kF]
  have hm24:=hm3.trans hm4
  have hm04:=hm02.trans hm24
  have hb24:=hb2.mod hm24 (by simp)
  have c9:=fun k=>hb24.cell k
  have key :∀(σ':Sl) (lv':Value) (L:List (Nat×List UInt8)) (ucs:List (List Value)),σ' 9=.pointer (some ⟨w1.heap.size,0,none⟩)→σ' 14=lv'→SlC anyB w4 lv' L.length ucs.flatten→RepU anyB w4 L ucs→L.length≤32767→gu=zT L →
    wpC P (.seq (.seq (.blk [⟨(some (84)),.fad (.tmp 9) 4,none⟩,⟨(some (85)),.ld (.tmp 84),none⟩,⟨(some (86)),.len (.tmp 85),none⟩,⟨(some (87)),.mv (.tmp 14),none⟩,⟨(some (88)),.len (.tmp 87),none⟩,⟨(some (89)),.bin .neq (.tmp 86) (.tmp 88),none⟩])
     (.cond (.tmp 89) (.seq (.blk [⟨(some (10)),.mv (.const (.bool false)),none⟩]) (.ret)) (.skip)))
     (.seq (ir_sTold_6 F) (.seq (.blk [⟨(some (10)),.mv (.const (.bool true)),none⟩]) (.ret)))) (postC [.tmp 10] (kG6 w)) σ' w4:=by
   intro σ' lv' L ucs h9 h14 hl hu hL he
   obtain ⟨b',c',el'⟩:=hl.shape
   have hgl:gu.length=L.length:=by rw [he];simp [zT]
   rw [wpC_seq,wpC_seq,kD]
   refine go1 (v:=.pointer (some ⟨w1.heap.size,4,none⟩)) rfl (by simp [h9]) ?_
   refine go1 (v:=guv) rfl (by simp [c9]) ?_
   refine go1 (v:=.int .i64 (gu.length:Nat)) rfl (by simp [egu]) ?_
   refine go1 (v:=lv') rfl (by simp [h14]) ?_
   refine go1 (v:=.int .i64 (L.length:Nat)) rfl (by simp [el']) ?_
   refine go1 (v:=.bool false) rfl (by simp [hgl]) (kP ?_)
   simp only [kF]
   rw [kG (by simp),wpC_skip]
   simp only [kF]
   rw [wpC_seq]
   refine kIY hm hw hs hb24 (by simp [h9]) (by simp [h14]) rfl hl hu (b4.keep hm04) (b5.keep hm04) hL he fun σ5 w5 hm5=>?_
   simp only [kF]
   rw [wpC_seq,kD]
   refine go1 (v:=.bool true) rfl (by simp) (kP ?_)
   simp only [kF]
   exact ret1 (v:=.bool true) (by simp) ⟨rfl,hm04.trans hm5⟩
  rw [wpC_seq,wpC_seq,kD]
  refine go1 (v:=.bool flex) rfl (by simp [k2]) ?_
  refine go1 (v:=.bool !flex) rfl (by simp) (kP ?_)
  simp only [kF]
  cases flex with
  | true =>
    rw [kG (by simp),wpC_skip]
    simp only [kF]
    exact key _ lv4 (kU fds u) ucs (by simp [k9]) (by simp) hl4 hu4 (kDL _ _) (by simpa using hgu)
  | false =>
    rw [kI (by simp),kD]
    refine go1 (v:=.slice none 0 0) rfl (by simp) (kP ?_)
    simp only [kF]
    exact key _ (.slice none 0 0) [] [] (by simp [k9]) (by simp) SlC.nil .nil (by simp) (by simpa [zT] using hgu)
end
structure TLib (P:Program) (F:Nat→Nat):Prop where
 sl:SLib P F
 same:kH P (F vW)=some (ir_sSame F)
 number:kH P (F kBO)=some kB6
 usual:kH P (F kFE)=some (ir_sUsual F)
 told1:kH P (F kFF)=some (ir_stold_ F)
 told:kH P (F kHV)=some (ir_sTold F)
 flexible:kH P (F kCA)=some (ir_sFlexible F)
section
variable {P:Program} {F:Nat→Nat}
attribute [local simp] gOk updo upd ev RK.val? kL kM Addr.kK qE Value.cells undef
mutual
theorem FD.usC (L:TLib P F) :∀f:FD,f.plain=true→kA0 P F f.sub
 | .mk kind frm to null tag dfl of sub,h=>by
   simp only [FD.plain,Bool.and_eq_true,decide_eq_true_eq] at h
   exact kBE L.sl.mixed L.usual L.sl.at_ L.same L.number h.2.1 (usCL L sub h.2.2)
theorem usCL (L:TLib P F) :∀l:List FD,FD.zN l=true →∀f∈l,kA0 P F f.sub
 | [],_,f,hf=>by simp at hf
 | a::l,h,f,hf=>by
   simp only [FD.zN,Bool.and_eq_true] at h
   rcases List.mem_cons.1 hf with e|hf
   ·rw [e];exact FD.usC L a h.1
   ·exact usCL L l h.2 f hf
end
theorem usOne (L:TLib P F) {f:FD} (h:f.plain=true):kA0 P F [f] :=
 kBE L.sl.mixed L.usual L.sl.at_ L.same L.number (by simp) fun g hg=>by
  rcases List.mem_singleton.1 hg with rfl
  exact FD.usC L _ h
mutual
theorem FD.toC (L:TLib P F) (ver:Int) (flex:Bool) :∀f:FD,f.plain=true→kBI P F ver flex f
 | .mk kind frm to null tag dfl of sub,h=>by
   simp only [FD.plain,Bool.and_eq_true,decide_eq_true_eq] at h
   have hp:kN5 P F ver flex sub:=kI1 L.sl.mixed L.told L.sl.at_ L.sl.has L.sl.whole L.same L.sl.known L.sl.unknown h.2.1 (fun f hf=>FD.plain.tag (FD.yE h.2.2 f hf)) (toCL L ver flex sub h.2.2) (fun f hf=>usOne L (FD.yE h.2.2 f hf))
   refine kCO L.sl.mixed L.told1 L.sl.null L.sl.whole L.same L.sl.things L.number hp fun _ ho=>?_
   exact kCO L.sl.mixed L.told1 L.sl.null L.sl.whole L.same L.sl.things L.number hp fun ho' _=>absurd ho' ho
theorem toCL (L:TLib P F) (ver:Int) (flex:Bool) :∀l:List FD,FD.zN l=true →∀f∈l,kBI P F ver flex f
 | [],_,f,hf=>by simp at hf
 | a::l,h,f,hf=>by
   simp only [FD.zN,Bool.and_eq_true] at h
   rcases List.mem_cons.1 hf with e|hf
   ·rw [e];exact FD.toC L ver flex a h.1
   ·exact toCL L ver flex l h.2 f hf
end
theorem kKE (L:TLib P F) (ver:Int) (flex:Bool) {fs:List FD} (h:FD.zN fs=true) (hl:fs.length<1000):kN5 P F ver flex fs :=
 kI1 L.sl.mixed L.told L.sl.at_ L.sl.has L.sl.whole L.same L.sl.known L.sl.unknown hl (fun f hf=>FD.plain.tag (FD.yE h f hf)) (toCL L ver flex fs h) (fun f hf=>usOne L (FD.yE h f hf))
theorem kG7 (L:TLib P F) {w:World} {m:MD} {ms:List Value} {ver:Int} (hms:RepM anyB w m ms):Calls P (F kCA) [.agg ms.toArray,.int .i64 ver].toArray w fun e w'=>e=.returned (.bool (m.qZ ver))∧Mod [] w w':=by
 have h:=L.flexible
 cases hms with
 | @mk fs flex v css h1 h2 =>
 unfold ir_sFlexible at h
 refine kT h L.sl.mixed (by simp) ?_
 clear h
 rw [wpC_seq,kD]
 refine wB (v:=.agg #[v,.int .i64 flex]) (by simp) fun w1 hb1 hm1=>?_
 have hb1:Blk w1 w.heap.size [v,.int .i64 flex]:=by simpa using hb1
 have c1:=fun k=>hb1.cell k
 refine go1 (v:=.bool false) rfl (by simp) (kP ?_)
 simp only [kF]
 rw [wpC_seq,kD]
 refine go1 (v:=.pointer (some ⟨w.heap.size,1,none⟩)) rfl (by simp) ?_
 refine go1 (v:=.int .i64 flex) rfl (by simp [c1]) ?_
 refine go1 (v:=.bool (decide (flex≥0))) rfl (by simp) ?_
 refine go1 (v:=.bool (decide (flex≥0))) rfl (by simp) ?_
 by_cases hn:flex≥0
 ·rw [show decide (flex≥0)=true by simp [hn]]
  refine go1 (v:=.int .i64 ver) (by simp) (by simp) ?_
  refine go1 (v:=.pointer (some ⟨w.heap.size,1,none⟩)) (by simp) (by simp) ?_
  refine go1 (v:=.int .i64 flex) (by simp) (by simp [c1]) ?_
  refine go1 (v:=.bool (decide (ver≥flex))) (by simp) (by simp) ?_
  refine go1 (v:=.bool (decide (ver≥flex))) rfl (by simp) ?_
  refine go1 (v:=.bool (decide (ver≥flex))) rfl (by simp) (kP ?_)
  simp only [kF]
  exact ret1 (v:=.bool (decide (ver≥flex))) (by simp) ⟨by simp [MD.qZ,hn],hm1⟩
 ·rw [show decide (flex≥0)=false by simp;omega]
  iterate 4 (refine go0 (by simp) ?_)
  refine go1 (v:=.bool false) rfl (by simp) ?_
  refine go1 (v:=.bool false) rfl (by simp) (kP ?_)
  simp only [kF]
  refine ret1 (v:=.bool false) (by simp) ⟨?_,hm1⟩
  have:decide (flex≥0)=false:=by simp;omega
  simp [MD.qZ,this]
end
end Go.Msk
