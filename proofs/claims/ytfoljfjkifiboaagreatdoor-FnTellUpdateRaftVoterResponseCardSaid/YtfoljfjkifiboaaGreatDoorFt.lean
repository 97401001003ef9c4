/- A small language of resolved operations, and what the generic and the generated functions do in it (part 20). -/
import Derived.Test.YtfoljfjkifiboaaGreatDoorFs
namespace Go.Msk
open Go.RowKit
set_option maxRecDepth 100000
def jK (ver:Int) (flex:Bool) (tag:Nat):List FD→Nat→TR→List (Nat×List UInt8)
 | [],_,_=>[]
 | f::r,i,t=>(if f.tag=tag∧f.isUs (t.at i)=false then [(tag,f.enc ver flex (t.at i))] else [])++jK ver flex tag r (i+1) t
def xO (l:List (Nat×List UInt8)):List UInt8:=l.flatMap fun p=>uvE p.1++(uvE p.2.length++p.2)
def yJ (ver:Int) (flex:Bool) (fs:List FD) (t:TR) (k:Nat):List (Nat×List UInt8):=(List.range k).flatMap fun tag=>jK ver flex tag fs 0 t
def kC6 (ver:Int) (flex:Bool) (fs:List FD) (t:TR):List UInt8 :=
 zI ver flex fs 0 t++if flex then uvE ((yJ ver flex fs t (qN fs)).length+(kU fs t.u).length)++(xO (yJ ver flex fs t (qN fs))++y7 (kU fs t.u)) else []
theorem wJ (ver:Int) (flex:Bool) (tag:Nat) :∀(a b:List FD) (i:Nat) (t:TR),jK ver flex tag (a++b) i t=jK ver flex tag a i t++jK ver flex tag b (i+a.length) t
 | [],b,i,t=>by simp [jK]
 | f::a,b,i,t=>by
   rw [List.cons_append,jK,jK,wJ ver flex tag a b (i+1) t,List.append_assoc]
   congr 3
   simp;omega
theorem kKK {ver:Int} {flex:Bool} {tag:Nat} {fs:List FD} {t:TR} {j:Nat} {f:FD} (h:fs[j]?=some f) :
  jK ver flex tag (fs.take (j+1)) 0 t=jK ver flex tag (fs.take j) 0 t++(if f.tag=tag∧f.isUs (t.at j)=false then [(tag,f.enc ver flex (t.at j))] else []):=by
 have hl:j<fs.length:=(List.getElem?_eq_some_iff.1 h).1
 rw [yK h,wJ]
 have e:0+(fs.take j).length=j:=by simp;omega
 rw [e];simp [jK]
theorem kA5 (a b:List (Nat×List UInt8)):xO (a++b)=xO a++xO b:=by simp [xO,List.flatMap_append]
theorem vJ (ver:Int) (flex:Bool) (fs:List FD) (t:TR) (k:Nat):yJ ver flex fs t (k+1)=yJ ver flex fs t k++jK ver flex k fs 0 t:=by
 simp [yJ,List.range_succ,List.flatMap_append]
theorem kBJ (ver:Int) (flex:Bool) (tag:Nat) (fs:List FD) (t:TR) (j:Nat) :∃r,jK ver flex tag fs 0 t=jK ver flex tag (fs.take j) 0 t++r:=by
 refine ⟨jK ver flex tag (fs.drop j) (0+(fs.take j).length) t,?_⟩
 rw [←wJ,List.take_append_drop]
theorem kI5 (ver:Int) (flex:Bool) (fs:List FD) (t:TR) {k K:Nat} (h:k≤K) :∃r,yJ ver flex fs t K=yJ ver flex fs t k++r:=by
 obtain ⟨d,rfl⟩ :∃d,K=k+d:=⟨K-k,by omega⟩
 induction d with
 | zero=>exact ⟨[],by simp⟩
 | succ d ih =>
   obtain ⟨r,hr⟩:=ih (by omega)
   exact ⟨r++jK ver flex (k+d) fs 0 t,by rw [←Nat.add_assoc,vJ,hr,List.append_assoc]⟩
theorem kF0 (ver:Int) (flex:Bool) (tag:Nat) :∀(fs:List FD) (i:Nat) (t:TR),(jK ver flex tag fs i t).length≤fs.length
 | [],_,_=>by simp [jK]
 | f::r,i,t=>by
   have:=kF0 ver flex tag r (i+1) t
   simp only [jK,List.length_append,List.length_cons]
   split<;>simp<;>omega
theorem kF1 (ver:Int) (flex:Bool) (fs:List FD) (t:TR) :∀k,(yJ ver flex fs t k).length≤k*fs.length
 | 0=>by simp [yJ]
 | k+1=>by
   have h1:=kF1 ver flex fs t k
   have h2:=kF0 ver flex k fs 0 t
   rw [vJ,List.length_append,Nat.add_mul]
   omega
section
variable {P:Program} {F:Nat→Nat}
attribute [local simp] gOk updo upd ev RK.val? kL kM Addr.kK qE Value.cells undef
theorem eql_int (a b:Int):(a==b)=decide (a=b):=rfl
theorem kOM (hm:P.follows .mixedOrders=true) (ha:kH P (F sAt)=some (ir_sAt F)) (hu:kH P (F z8)=some (ir_sUvarint F))
  {w0 w:World} {tb j n c k cnt:Nat} {ver:Int} {flex:Bool} {f:FD} {fcs tcs:List Value} {t:TR} {σ:Sl} {a:Addr} {out:List UInt8} {Q:Exit→Sl→World→Prop}
  (hm0:Mod [] w0 w) (hbt:Blk w0 tb tcs) (hrf:RepF anyB w0 f fcs) (hrt:RepT anyB w0 t tcs) (hkk:t.kok) (hF:kCK P F ver flex f) (hUs:f.tag=(k:Nat)→UsC P F f) (hk:k<4294967296)
  (h1:σ 1=.int .i64 ver) (h2:σ 2=.bool flex) (h7:σ 7=.pointer (some ⟨tb,0,none⟩)) (h55:σ 55=.slice (some a) n c) (h57:σ 57=.int .i64 (j:Nat)) (hj:j<n) (hcell:kV w0 (a.add (j*8)) 0 8=some fcs)
  (h14:σ 14=.int .i64 (k:Nat)) (h11:σ 11=.int .i64 (cnt:Nat)) (hcnt:cnt<4611686018427387904)
  (h10:DRaw w w0.heap.size (σ 10) out) (hlen:(out++xO (if f.tag=k∧f.isUs (t.at j)=false then [(k,f.enc ver flex (t.at j))] else [])).length≤lim)
  (hQ :∀σ' w',(∀s,s<58→s≠10→s≠11→s≠15→s≠16→s≠17→σ' s=σ s)→DRaw w' w0.heap.size (σ' 10) (out++xO (if f.tag=k∧f.isUs (t.at j)=false then [(k,f.enc ver flex (t.at j))] else [])) →
   σ' 11=.int .i64 ((cnt+(if f.tag=k∧f.isUs (t.at j)=false then [(k,f.enc ver flex (t.at j))] else []).length:Nat):Int)→Mod [] w0 w'→Q .normal σ' w') :
  wpC P (.seq (.blk [⟨(some (59)),.mv (.tmp 57),none⟩,
                      ⟨(some (60)),.iad (.tmp 55) (.tmp 57) 8,none⟩,
                      ⟨(some (61)),.ldn (.tmp 60) 8,none⟩,
                      ⟨(some (16)),.alloc [.int .i64 0,.int .i64 0,.int .i64 0,.int .i64 0,.int .i64 0,.int .i64 0,.int .i64 0,.slice none 0 0],none⟩,
                      ⟨(some (15)),.mv (.tmp 59),none⟩,
                      ⟨none,.st (.tmp 16) 8 (.tmp 61),none⟩])
          (.seq (ir_sPart_2 F)
          (.cond (.tmp 73)
           (ir_sPart_3 F)
           (.skip)))) Q σ w:=by
 have hcell1:=qA hm0.below _ _ _ hcell
 rw [wpC_seq,kD]
 refine go1 (v:=.int .i64 (j:Nat)) rfl (by simp [h57]) ?_
 refine go1 (v:=.pointer (some (a.add (j*8)))) rfl (by simp [h55,h57,hj]) ?_
 refine go1 (v:=.agg fcs.toArray) rfl (by simp [hcell1]) ?_
 refine jI fun w2 hb2 hm2=>?_
 refine go1 (v:=.int .i64 (j:Nat)) rfl (by simp) ?_
 refine goSt (b:=w.heap.size) (v:=.agg fcs.toArray) (by simp) (by simp) hb2 (by simp [hrf.eight]) rfl (by simpa using hrf.oneCell) fun w3 hb3 hm3=>kP ?_
 simp only [kF]
 have hb3:Blk w3 w.heap.size fcs:=by simpa using hb3
 have hm13:Mod [] w w3:=Mod.drop (b:=w.heap.size) (S:=[]) (hm2.nil.trans hm3) (Nat.le_refl _)
 have hm03:=hm0.trans hm13
 have ht4:fcs[4]?=some (.int .i64 f.tag):=by cases hrf;rfl
 rw [wpC_seq]
 unfold ir_sPart_2
 show wpD P _ [] _ w3.drew _
 have hmd:Mod [] w3 w3.drew:=Mod.drew _ _
 have hm0d:=hm03.trans hmd
 have hb3d:=hb3.mod hmd (by simp)
 have c3:=fun k=>hb3d.cell k
 have hl3:=kJ hb3d.cells hrf.eight
 have hlt:=kJ (hbt.mod hm0d (by simp)).cells hrt.five
 refine zM (fun i v w'=>match i with|8 =>∃cs,v=.agg cs.toArray∧RepT anyB w' (t.at j) cs|9=>v=.bool (f.isUs (t.at j))|_=>True) (by
  intro i v w w' h hm
  split at h
  ·obtain ⟨cs,e1,e2⟩:=h;exact ⟨cs,e1,e2.keep hm⟩
  ·exact h
  ·trivial) ?_
 refine bo1 (v:=.pointer (some ⟨w.heap.size,4,none⟩)) rfl (by simp) ?_
 refine bo1 (v:=.int .i64 f.tag) rfl (by simp [c3,ht4]) ?_
 refine bo1 (v:=.int .i64 (k:Nat)) rfl (by simp [h14]) ?_
 refine bo1 (v:=.bool (decide (f.tag=(k:Nat)))) rfl (by simp [eql_int]) ?_
 refine bo1 (v:=.bool (decide (f.tag=(k:Nat)))) rfl (by simp) ?_
 -- what follows the question
 have fin :∀(σ4:Sl) (w4:World),Mod [] w0 w4→Mod [] w3 w4→(∀s,s<58→s≠15→s≠16→σ4 s=σ s)→σ4 15=.int .i64 (j:Nat)→σ4 16=.pointer (some ⟨w.heap.size,0,none⟩)→σ4 73=.bool (decide (f.tag=(k:Nat)∧f.isUs (t.at j)=false)) →
   wpC P (.cond (.tmp 73) (ir_sPart_3 F) .skip) Q σ4 w4:=by
  intro σ4 w4 hm04 hm34 hfr h15 h16 h73
  by_cases hc:f.tag=(k:Nat)∧f.isUs (t.at j)=false
  rotate_left
  ·rw [kG (by simp [h73,hc]),wpC_skip]
   rw [if_neg hc] at hQ
   refine hQ σ4 w4 (fun s s1 s2 s3 s4 s5 s6=>hfr s s1 s4 s5) ?_ ?_ hm04
   ·rw [hfr 10 (by omega) (by omega) (by omega)]
    simpa [xO] using h10.keep (hm13.trans hm34)
   ·rw [hfr 11 (by omega) (by omega) (by omega),h11];simp
  rw [if_pos hc] at hQ hlen
  rw [kI (by simp [h73,hc])]
  have eq1:xO [(k,f.enc ver flex (t.at j))]=uvE k++(uvE (f.enc ver flex (t.at j)).length++f.enc ver flex (t.at j)):=by simp [xO]
  rw [eq1] at hQ hlen
  have hlen':out.length+((uvE k).length+((uvE (f.enc ver flex (t.at j)).length).length+(f.enc ver flex (t.at j)).length))≤lim:=by
   simp only [List.length_append] at hlen;omega
  clear hlen
  unfold ir_sPart_3
  have hb4:=hb3.mod hm34 (by simp)
  rw [wpC_seq]
  show wpD P _ [] _ w4.drew _
  have hmd4:Mod [] w4 w4.drew:=Mod.drew _ _
  have hm0d4:=hm04.trans hmd4
  have hl4:=kJ (hb4.mod hmd4 (by simp)).cells hrf.eight
  have hlt4:=kJ (hbt.mod hm0d4 (by simp)).cells hrt.five
  refine zM (fun i v w'=>match i with|5 =>∃cs,v=.agg cs.toArray∧RepT anyB w' (t.at j) cs|6=>DRaw w' w4.heap.size v (f.enc ver flex (t.at j))|_=>True) (by
   intro i v w w' h hm
   split at h
   ·obtain ⟨cs,e1,e2⟩:=h;exact ⟨cs,e1,e2.keep hm⟩
   ·exact h.keep hm
   ·trivial) ?_
  refine bo1 (v:=.agg fcs.toArray) rfl (by simp [h16,hl4]) ?_
  refine bo1 (v:=.int .i64 ver) rfl (by simp [hfr 1 (by omega) (by omega) (by omega),h1]) ?_
  refine bo1 (v:=.bool flex) rfl (by simp [hfr 2 (by omega) (by omega) (by omega),h2]) ?_
  refine bo1 (v:=.agg tcs.toArray) rfl (by simp [hfr 7 (by omega) (by omega) (by omega),h7,hlt4]) ?_
  refine bo1 (v:=.int .i64 (j:Nat)) rfl (by simp [h15]) ?_
  refine jB (vs:=[.agg tcs.toArray,.int .i64 (j:Nat)]) rfl (by simp) (fun w' hm' _=>(kAP hm ha (hrt.keep (hm0d4.trans hm'))).mono ?_) ?_
  ·rintro e w'' ⟨cs,rfl,hr,hm2⟩;exact ⟨_,rfl,hm2,cs,rfl,hr⟩
  rintro v5 ⟨_,cs5,rfl,-⟩
  refine jB (vs:=[.agg fcs.toArray,.int .i64 ver,.bool flex,.agg cs5.toArray]) rfl (by simp) (fun w' hm' hkn=>?_) ?_
  ·have hk6:=qY (j:=5) (t:=79) hkn (by simp) rfl rfl rfl rfl
   obtain ⟨cs,e1,e2⟩ :∃cs,Value.agg cs5.toArray=.agg cs.toArray∧RepT anyB w' (t.at j) cs:=by simpa using hk6
   rw [e1]
   refine (hF w' fcs (t.at j) cs (hrf.keep (hm0d4.trans hm')) e2 (hkk.at j) (by omega)).mono ?_
   rintro e w'' ⟨v,rfl,hd,hm2⟩;exact ⟨v,rfl,hm2,hd.low hm'.size⟩
  rintro v6 -
  refine bo1 (v:=v6) rfl (by simp) ?_
  intro w5 hm5 hkn
  refine kP ?_
  simp only [kF]
  have hk7:=qY (j:=6) (t:=80) hkn (by simp) rfl rfl rfl rfl
  have d6:DRaw w5 w4.heap.size v6 (f.enc ver flex (t.at j)):=by simpa using hk7
  have hm05:=hm0d4.trans hm5
  have r04:DRaw w4 w0.heap.size (σ 10) out:=h10.keep (hm13.trans hm34)
  have r0:DRaw w5 w0.heap.size (σ 10) out:=r04.keep (hmd4.trans hm5)
  generalize hσ:updo _ (some 17) _=σ5
  have g5 :∀s,s<58→s≠15→s≠16→s≠17→σ5 s=σ s:=fun s s1 s2 s3 s4=>by
   rw [←hσ];simp only [updo,upd]
   repeat rw [if_neg (by omega)]
   exact hfr s s1 s2 s3
  have q17:σ5 17=v6:=by rw [←hσ];simp
  clear hσ
  obtain ⟨b6,c6,e6⟩:=d6.slc.shape
  rw [wpC_seq,kD]
  refine go1 (v:=σ 10) rfl (by simp [g5 10 (by omega) (by omega) (by omega) (by omega)]) ?_
  refine go1 (v:=.int .i64 (k:Nat)) rfl (by simp [g5 14 (by omega) (by omega) (by omega) (by omega),h14]) ?_
  refine go1 (v:=.int .u64 (k:Nat)) rfl (by simp [xL (n:=k) (by omega)]) ?_
  refine qF rfl (vs:=[.int .u64 (k:Nat)]) (by simp) (jS hm hu (by omega)) ?_
  rintro e w6 ⟨v7,rfl,hd7,hm6⟩
  refine ⟨v7,rfl,?_⟩
  have r1:=r0.keep hm6
  have hm06:=hm05.trans hm6
  refine goC rfl (qR (n0:=w0.heap.size) (v:=σ 10) (by simp) r1 hm06.size (k:=uvE k) (by simpa using hd7.src) (by omega) fun v8 w8 ha8=>?_)
  have hm08:=ha8.mod0 r1 hm06
  have s6:=d6.keep hm6
  have s8:DRaw w8 w4.heap.size v6 (f.enc ver flex (t.at j)):=s6.mod ha8.mod fun b hb hc=>by
   have h1:=(d6.own hb).1
   have h2:=(r04.own (b:=b) (by simpa using hc)).2
   omega
  refine go1 (v:=v6) rfl (by simp [q17]) ?_
  refine go1 (v:=.int .i64 ((f.enc ver flex (t.at j)).length:Nat)) rfl (by simp [e6]) ?_
  refine go1 (v:=.int .u64 ((f.enc ver flex (t.at j)).length:Nat)) rfl (by simp [xL (n:=(f.enc ver flex (t.at j)).length) (by unfold lim at hlen';omega)]) ?_
  refine qF rfl (vs:=[.int .u64 ((f.enc ver flex (t.at j)).length:Nat)]) (by simp) (jS hm hu (by unfold lim at hlen';omega)) ?_
  rintro e w9 ⟨v9,rfl,hd9,hm9⟩
  refine ⟨v9,rfl,?_⟩
  have r2:=ha8.raw.keep hm9
  have hm09:=hm08.trans hm9
  refine goC rfl (qR (n0:=w0.heap.size) (v:=v8) (by simp) r2 hm09.size (k:=uvE (f.enc ver flex (t.at j)).length) (by simpa using hd9.src) (by simp only [List.length_append];omega) fun v10 w10 ha10=>?_)
  have hm010:=ha10.mod0 r2 hm09
  refine go1 (v:=v6) rfl (by simp [q17]) ?_
  have hsrc:DRaw w10 w4.heap.size v6 (f.enc ver flex (t.at j)):=(s8.keep hm9).mod ha10.mod fun b hb hc=>by
   have h1:=d6.own hb
   have h3:=hm6.size
   rcases ha8.own b (by simpa using hc) with h2|h2
   ·have:=(r04.own h2).2;omega
   ·omega
  refine goC rfl (qR (n0:=w0.heap.size) (v:=v10) (by simp) ha10.raw hm010.size (k:=f.enc ver flex (t.at j)) (by simpa using hsrc.src) (by simp only [List.length_append];omega) fun v11 w11 ha11=>?_)
  have hm011:=ha11.mod0 ha10.raw hm010
  refine go1 (v:=v11) rfl (by simp) (kP ?_)
  simp only [kF]
  rw [kD]
  refine go1 (v:=.int .i64 (cnt:Nat)) rfl (by simp [g5 11 (by omega) (by omega) (by omega) (by omega),h11]) ?_
  refine go1 (v:=.int .i64 ((cnt+1:Nat):Int)) rfl (by
   simp only [RK.val?,ev,updo,upd,if_true,kL,decide_true,Bool.or_true,kM]
   rw [show (cnt:Int)+1=((cnt+1:Nat):Int) by omega,xR (by omega)]) ?_
  refine go1 (v:=.int .i64 ((cnt+1:Nat):Int)) rfl (by simp) (kP ?_)
  refine hQ _ w11 (fun s s1 s2 s3 s4 s5 s6=>?_) (by simpa [List.append_assoc] using ha11.raw) (by simp) hm011
  simp only [updo,upd]
  repeat rw [if_neg (by omega)]
  exact g5 s s1 s4 s5 s6
 by_cases hc:f.tag=(k:Nat)
 ·rw [show decide (f.tag=(k:Nat))=true by simp [hc]]
  refine bo1 (v:=.agg fcs.toArray) (by simp) (by simp [hl3]) ?_
  refine bo1 (v:=.agg tcs.toArray) (by simp) (by simp [h7,hlt]) ?_
  refine bo1 (v:=.int .i64 (j:Nat)) (by simp) (by simp) ?_
  refine jB (vs:=[.agg tcs.toArray,.int .i64 (j:Nat)]) (by simp) (by simp) (fun w' hm' _=>(kAP hm ha (hrt.keep (hm0d.trans hm'))).mono ?_) ?_
  ·rintro e w'' ⟨cs,rfl,hr,hm2⟩;exact ⟨_,rfl,hm2,cs,rfl,hr⟩
  rintro v8 ⟨_,cs8,rfl,-⟩
  refine jB (vs:=[.agg fcs.toArray,.agg cs8.toArray]) (by simp) (by simp) (fun w' hm' hkn=>?_) ?_
  ·have hk6:=qY (j:=8) (t:=70) hkn (by simp) rfl rfl (by simp) rfl
   obtain ⟨cs,e1,e2⟩ :∃cs,Value.agg cs8.toArray=.agg cs.toArray∧RepT anyB w' (t.at j) cs:=by simpa using hk6
   rw [e1]
   refine (hUs hc w' fcs _ cs (hrf.keep (hm0d.trans hm')) e2).mono ?_
   rintro e w'' ⟨rfl,hmm⟩;exact ⟨_,rfl,hmm,rfl⟩
  rintro v9 ⟨_,e9⟩
  have e9:v9=.bool (f.isUs (t.at j)):=e9
  subst e9
  refine bo1 (v:=.bool (!f.isUs (t.at j))) (by simp) (by simp) ?_
  refine bo1 (v:=.bool (!f.isUs (t.at j))) rfl (by simp) ?_
  intro w' hm' hkn
  refine kP ?_
  simp only [kF]
  refine fin _ w' (hm0d.trans hm') (hmd.trans hm') (fun s s1 s2 s3=>?_) (by simp) (by simp) (by simp [hc])
  simp only [updo,upd]
  repeat rw [if_neg (by omega)]
 ·rw [show decide (f.tag=(k:Nat))=false by simp [hc]]
  iterate 6 (refine bo0 (by simp) ?_)
  refine bo1 (v:=.bool false) rfl (by simp) ?_
  intro w' hm' hkn
  refine kP ?_
  simp only [kF]
  refine fin _ w' (hm0d.trans hm') (hmd.trans hm') (fun s s1 s2 s3=>?_) (by simp) (by simp) (by simp [hc])
  simp only [updo,upd]
  repeat rw [if_neg (by omega)]
end
theorem KRaw.len {w:World} {n0:Nat} {v:Value} {l:List Nat} (h:KRaw w n0 v l) :∃kb kc,v=.slice kb l.length kc:=by
 rcases h.sl with ⟨rfl,rfl⟩|⟨B,cap,rest,rfl,-⟩
 ·exact ⟨none,0,rfl⟩
 ·exact ⟨_,_,rfl⟩
section
variable {P:Program}
attribute [local simp] gOk updo upd ev RK.val? kL kM Addr.kK qE Value.cells undef
end
def kON (P:Program) (F:Nat→Nat) (ver:Int) (flex:Bool) (fs:List FD):Prop :=
 ∀(w:World) (v:Value) (css:List (List Value)) (t:TR) (ts:List Value),SlC anyB w v fs.length css.flatten→jU anyB w fs css→RepT anyB w t ts→t.kok→(kC6 ver flex fs t).length≤lim →
   Calls P (F kGF) [v,.int .i64 ver,.bool flex,.agg ts.toArray].toArray w (uY w (kC6 ver flex fs t))
section
variable {P:Program} {F:Nat→Nat}
attribute [local simp] gOk updo upd ev RK.val? kL kM Addr.kK qE Value.cells undef
theorem kKL (hm:P.follows .mixedOrders=true) (hh:kH P (F sHas)=some (ir_sHas F)) (ha:kH P (F sAt)=some (ir_sAt F))
  {w0 w:World} {tb j n c:Nat} {ver:Int} {flex:Bool} {f:FD} {fcs tcs:List Value} {t:TR} {σ:Sl} {a:Addr} {out:List UInt8} {Q:Exit→Sl→World→Prop}
  (hm0:Mod [] w0 w) (hbt:Blk w0 tb tcs) (hrf:RepF anyB w0 f fcs) (hrt:RepT anyB w0 t tcs) (hk:t.kok) (hF:kCK P F ver flex f)
  (h1:σ 1=.int .i64 ver) (h2:σ 2=.bool flex) (h7:σ 7=.pointer (some ⟨tb,0,none⟩)) (h21:σ 21=.slice (some a) n c) (h23:σ 23=.int .i64 (j:Nat)) (hj:j<n) (hcell:kV w0 (a.add (j*8)) 0 8=some fcs)
  (h9:DRaw w w0.heap.size (σ 9) out) (hlen:(out++(if f.tag<0∧f.hasV ver=true then f.enc ver flex (t.at j) else [])).length≤lim)
  (hQ :∀σ' w',(∀s,s<24→s≠9→s≠12→s≠13→σ' s=σ s)→DRaw w' w0.heap.size (σ' 9) (out++(if f.tag<0∧f.hasV ver=true then f.enc ver flex (t.at j) else []))→Mod [] w0 w'→Q .normal σ' w'):wpC P (ir_sPart_1 F) Q σ w:=by
 unfold ir_sPart_1
 have hcell1:=qA hm0.below _ _ _ hcell
 rw [wpC_seq,kD]
 refine go1 (v:=.int .i64 (j:Nat)) rfl (by simp [h23]) ?_
 refine go1 (v:=.pointer (some (a.add (j*8)))) rfl (by simp [h21,h23,hj]) ?_
 refine go1 (v:=.agg fcs.toArray) rfl (by simp [hcell1]) ?_
 refine jI fun w2 hb2 hm2=>?_
 refine go1 (v:=.int .i64 (j:Nat)) rfl (by simp) ?_
 refine goSt (b:=w.heap.size) (v:=.agg fcs.toArray) (by simp) (by simp) hb2 (by simp [hrf.eight]) rfl (by simpa using hrf.oneCell) fun w3 hb3 hm3=>?_
 have hb3:Blk w3 w.heap.size fcs:=by simpa using hb3
 have hm13:Mod [] w w3:=Mod.drop (b:=w.heap.size) (S:=[]) (hm2.nil.trans hm3) (Nat.le_refl _)
 have hm03:=hm0.trans hm13
 refine kE ?_
 have c3:=fun k=>hb3.cell k
 have ht4:fcs[4]?=some (.int .i64 f.tag):=by cases hrf;rfl
 rw [wpC_seq,kD]
 refine go1 (v:=.pointer (some ⟨w.heap.size,4,none⟩)) rfl (by simp) ?_
 refine go1 (v:=.int .i64 f.tag) rfl (by simp [c3,ht4]) ?_
 by_cases htag:f.tag<0
 rotate_left
 ·refine go1 (v:=.bool false) rfl (by simp [htag]) ?_
  refine go1 (v:=.bool false) rfl (by simp) ?_
  iterate 3 (refine go0 (by simp) ?_)
  refine go1 (v:=.bool false) rfl (by simp) (kP ?_)
  simp only [kF]
  rw [kG (by simp),wpC_skip]
  have e0:(if f.tag<0∧f.hasV ver=true then f.enc ver flex (t.at j) else [])=[]:=by simp [htag]
  rw [e0,List.append_nil] at hQ
  refine hQ _ w3 (fun s s1 s2 s3 s4=>?_) (by simpa using h9.keep hm13) hm03
  simp only [updo,upd]
  repeat rw [if_neg (by omega)]
 refine go1 (v:=.bool true) rfl (by simp [htag]) ?_
 refine go1 (v:=.bool true) rfl (by simp) ?_
 refine go1 (v:=.agg fcs.toArray) (by simp) (by simp [kJ hb3.cells hrf.eight]) ?_
 refine go1 (v:=.int .i64 ver) (by simp) (by simp [h1]) ?_
 refine qF (by simp) (vs:=[.agg fcs.toArray,.int .i64 ver]) (by simp) (kGU hm hh (hrf.keep hm03)) ?_
 rintro e w4 ⟨rfl,hm4⟩
 have hm04:=hm03.trans hm4
 refine ⟨_,rfl,?_⟩
 refine go1 (v:=.bool (f.hasV ver)) rfl (by simp [FD.hasV]) (kE ?_)
 cases hhas:f.hasV ver with
 | false =>
   rw [kG (by simp),wpC_skip]
   have e0:(if f.tag<0∧f.hasV ver=true then f.enc ver flex (t.at j) else [])=[]:=by simp [hhas]
   rw [e0,List.append_nil] at hQ
   refine hQ _ w4 (fun s s1 s2 s3 s4=>?_) (by simpa using h9.keep (hm13.trans hm4)) hm04
   simp only [updo,upd]
   repeat rw [if_neg (by omega)]
 | true =>
   have e0:(if f.tag<0∧f.hasV ver=true then f.enc ver flex (t.at j) else [])=f.enc ver flex (t.at j):=by simp [hhas,htag]
   rw [e0] at hQ hlen
   rw [kI (by simp)]
   simp only [wpC]
   have hmd:Mod [] w0 w4.drew:=hm04.trans (Mod.drew _ _)
   have hb4:Blk w4.drew w.heap.size fcs:=(hb3.mod hm4 (by simp)).mod (Mod.drew [] _) (by simp)
   have hbt4:=hbt.mod hmd (by simp)
   refine zM (fun i v w'=>match i with|6 =>∃cs,v=.agg cs.toArray∧RepT anyB w' (t.at j) cs|7=>DRaw w' w0.heap.size v (f.enc ver flex (t.at j))|_=>True) (by
    intro i v w w' h hm
    split at h
    ·obtain ⟨cs,e1,e2⟩:=h;exact ⟨cs,e1,e2.keep hm⟩
    ·exact h.keep hm
    ·trivial) ?_
   refine bo1 (v:=σ 9) rfl (by simp) ?_
   refine bo1 (v:=.agg fcs.toArray) rfl (by simp [kJ hb4.cells hrf.eight]) ?_
   refine bo1 (v:=.int .i64 ver) rfl (by simp [h1]) ?_
   refine bo1 (v:=.bool flex) rfl (by simp [h2]) ?_
   refine bo1 (v:=.agg tcs.toArray) rfl (by simp [h7,kJ hbt4.cells hrt.five]) ?_
   refine bo1 (v:=.int .i64 (j:Nat)) rfl (by simp) ?_
   refine jB (vs:=[.agg tcs.toArray,.int .i64 (j:Nat)]) rfl (by simp) (fun w' hm' _=>(kAP hm ha (hrt.keep (hmd.trans hm'))).mono ?_) ?_
   ·rintro e w'' ⟨cs,rfl,hr,hm2⟩;exact ⟨_,rfl,hm2,cs,rfl,hr⟩
   rintro v6 ⟨_,cs6,rfl,-⟩
   refine jB (vs:=[.agg fcs.toArray,.int .i64 ver,.bool flex,.agg cs6.toArray]) rfl (by simp) (fun w' hm' hkn=>?_) ?_
   ·have hk6:=qY (j:=6) (t:=42) hkn (by simp) rfl rfl rfl rfl
    obtain ⟨cs,e1,e2⟩:=hk6
    simp only [updo,upd,if_true,Value.agg.injEq,Array.mk.injEq] at e1
    have e1:cs6=cs:=by simpa using e1
    subst e1
    refine (hF w' fcs (t.at j) cs6 (hrf.keep (hmd.trans hm')) e2 (hk.at j) (by simp only [List.length_append] at hlen;omega)).mono ?_
    rintro e w'' ⟨v,rfl,hd,hm2⟩;exact ⟨v,rfl,hm2,hd.low (hmd.trans hm').size⟩
   rintro v7 -
   intro w' hm' hkn
   have hk7:=qY (j:=7) (t:=43) hkn (by simp) rfl rfl rfl rfl
   have d7:DRaw w' w0.heap.size v7 (f.enc ver flex (t.at j)):=by simpa using hk7
   have hdr:DRaw w' w0.heap.size (σ 9) out:=h9.keep ((hm13.trans hm4).trans ((Mod.drew _ _).trans hm'))
   have hmw:=hmd.trans hm'
   refine goC rfl ?_
   refine qR (n0:=w0.heap.size) (v:=σ 9) (by simp) hdr hmw.size (k:=f.enc ver flex (t.at j)) (by simpa using d7.src) (by simpa using hlen) fun v' w5 ha=>?_
   refine go1 (v:=v') rfl (by simp) (kP ?_)
   refine hQ _ w5 (fun s s1 s2 s3 s4=>?_) (by simpa using ha.raw) (ha.mod0 hdr hmw)
   simp only [updo,upd]
   repeat rw [if_neg (by omega)]
theorem kOO (hm:P.follows .mixedOrders=true) (hu:kH P (F z8)=some (ir_sUvarint F)) (hw:kH P (F yR)=some (ir_sWhole F))
  {w0 w:World} {j n c k cnt:Nat} {b out:List UInt8} {sv:Value} {σ:Sl} {a:Addr} {Q:Exit→Sl→World→Prop} (hm0:Mod [] w0 w) (h100:σ 100=.slice (some a) n c) (h102:σ 102=.int .i64 (j:Nat)) (hj:j<n) (hn:n≤32767) (h11:σ 11=.int .i64 (cnt:Nat)) (hcnt:cnt<4611686018427387904) (hk:k<4294967296)
  (hcell1:kV w (a.add (j*2)) 0 2=some [.int .u32 (k:Nat),sv]) (hsv:SlC (fun b=>b<w0.heap.size) w sv b.length (u8s b)) (h10:DRaw w w0.heap.size (σ 10) out) (hlen:(out++(uvE k++(uvE (kN b).length++kN b))).length≤lim)
  (hQ :∀σ' w',(∀s,s<104→s≠10→s≠11→s≠19→s≠20→σ' s=σ s)→σ' 11=.int .i64 ((cnt+1:Nat):Int)→AppD w0.heap.size w (σ 10) w' (σ' 10) (out++(uvE k++(uvE (kN b).length++kN b)))→Mod [] w0 w'→Q .normal σ' w'):wpC P (ir_sPart_5 F) Q σ w:=by
 unfold ir_sPart_5
 rw [wpC_seq,kD]
 refine go1 (v:=.pointer (some (a.add (j*2)))) rfl (by simp [h100,h102,hj]) ?_
 refine go1 (v:=.agg #[.int .u32 (k:Nat),sv]) rfl (by simp [hcell1]) ?_
 refine jI fun w1 hb1 hm1=>?_
 refine goSt (b:=w.heap.size) (v:=.agg #[.int .u32 (k:Nat),sv]) (by simp) (by simp) hb1 rfl rfl (kGY hsv.one) fun w2 hb2 hm2=>?_
 have hb2:Blk w2 w.heap.size [.int .u32 (k:Nat),sv]:=by simpa using hb2
 have hm12:Mod [] w w2:=Mod.drop (b:=w.heap.size) (S:=[]) (hm1.nil.trans hm2) (Nat.le_refl _)
 have hm02:=hm0.trans hm12
 have c2:=fun k=>hb2.cell k
 have hsv2:SlC (fun b=>b<w0.heap.size) w2 sv b.length (u8s b):=hsv.mod hm12 (by simp) fun _ _ h=>h
 refine kE ?_
 rw [wpC_seq,kD]
 refine go1 (v:=.pointer (some ⟨w.heap.size,1,none⟩)) rfl (by simp) ?_
 refine go1 (v:=sv) rfl (by simp [c2]) ?_
 refine qF rfl (vs:=[sv]) (by simp) (wQ hm hw hsv2) ?_
 rintro e w3 ⟨ew,v3,rfl,hv3⟩
 rw [ew]
 refine ⟨v3,rfl,go1 (v:=v3) rfl (by simp) (kE ?_)⟩
 obtain ⟨vb,vc,ev3⟩:=hv3.shape
 have hwl:(kN b).length≤32767:=by simp [kN];omega
 simp only [List.length_append] at hlen
 rw [wpC_seq,kD]
 refine go1 (v:=σ 10) rfl (by simp) ?_
 refine go1 (v:=.pointer (some ⟨w.heap.size,0,none⟩)) rfl (by simp) ?_
 refine go1 (v:=.int .u32 (k:Nat)) rfl (by simp [c2]) ?_
 refine go1 (v:=.int .u64 (k:Nat)) rfl (by simp [xL (n:=k) (by omega)]) ?_
 refine qF rfl (vs:=[.int .u64 (k:Nat)]) (by simp) (jS hm hu (by omega)) ?_
 rintro e w4 ⟨v4,rfl,hd4,hm4⟩
 refine ⟨v4,rfl,?_⟩
 have hm04:=hm02.trans hm4
 have r0:DRaw w4 w0.heap.size (σ 10) out:=h10.keep (hm12.trans hm4)
 refine goC rfl ?_
 refine qR (n0:=w0.heap.size) (v:=σ 10) (by simp) r0 hm04.size (k:=uvE k) (by simpa using hd4.src) (by omega) fun v5 w5 ha5=>?_
 have hm05:=ha5.mod0 r0 hm04
 have hv35:SlC (fun b=>b<w0.heap.size) w5 v3 (kN b).length (u8s (kN b)):=(hv3.mod hm4 (by simp) fun _ _ h=>h).app ha5 r0
 refine go1 (v:=v3) rfl (by simp) ?_
 refine go1 (v:=.int .i64 ((kN b).length:Nat)) rfl (by simp [ev3]) ?_
 refine go1 (v:=.int .u64 ((kN b).length:Nat)) rfl (by simp [xL (n:=(kN b).length) (by omega)]) ?_
 refine qF rfl (vs:=[.int .u64 ((kN b).length:Nat)]) (by simp) (jS hm hu (by omega)) ?_
 rintro e w6 ⟨v6,rfl,hd6,hm6⟩
 refine ⟨v6,rfl,?_⟩
 have r1:=ha5.raw.keep hm6
 refine goC rfl ?_
 refine qR (n0:=w0.heap.size) (v:=v5) (by simp) r1 (hm05.trans hm6).size (k:=uvE (kN b).length) (by simpa using hd6.src) (by simp only [List.length_append];omega) fun v7 w7 ha7=>?_
 have hm07:=ha7.mod0 r1 (hm05.trans hm6)
 have hv37:SlC (fun b=>b<w0.heap.size) w7 v3 (kN b).length (u8s (kN b)):=(hv35.mod hm6 (by simp) fun _ _ h=>h).app ha7 r1
 refine go1 (v:=v3) rfl (by simp) ?_
 refine goC rfl ?_
 refine qR (n0:=w0.heap.size) (v:=v7) (by simp) ha7.raw hm07.size (k:=kN b) (by simpa using hv37.src) (by simp only [List.length_append];omega) fun v8 w8 ha8=>?_
 have hm08:=ha8.mod0 ha7.raw hm07
 refine go1 (v:=v8) rfl (by simp) (kE ?_)
 rw [kD]
 refine go1 (v:=.int .i64 (cnt:Nat)) rfl (by simp [h11]) ?_
 refine go1 (v:=.int .i64 ((cnt+1:Nat):Int)) rfl (by
  simp only [RK.val?,ev,updo,upd,if_true,kL,decide_true,Bool.or_true,kM]
  rw [show (cnt:Int)+1=((cnt+1:Nat):Int) by omega,xR (by omega)]) ?_
 refine go1 (v:=.int .i64 ((cnt+1:Nat):Int)) rfl (by simp) (kP ?_)
 have hall:AppD w0.heap.size w (σ 10) w8 v8 (out++(uvE k++(uvE (kN b).length++kN b))):=by
  have h:=((AppD.pre (hm12.trans hm4) ha5).side hm6).trans (ha7.trans ha8)
  simpa [List.append_assoc] using h
 refine hQ _ w8 (fun s s1 s2 s3 s4 s5=>?_) (by simp) (by simpa using hall) hm08
 simp only [updo,upd]
 repeat rw [if_neg (by omega)]
theorem kMC (hm:P.follows .mixedOrders=true) (h:kH P (F kGF)=some (ir_sPart F)) (hh:kH P (F sHas)=some (ir_sHas F)) (ha:kH P (F sAt)=some (ir_sAt F)) (hu:kH P (F z8)=some (ir_sUvarint F)) (hw:kH P (F yR)=some (ir_sWhole F))
  (hkn:kH P (F vR)=some (ir_sKnown F)) (hun:kH P (F yA)=some (ir_sUnknown F)) {ver:Int} {flex:Bool} {fs:List FD} (hF :∀f∈fs,kCK P F ver flex f) (hUs :∀f∈fs,0≤f.tag→UsC P F f) (htag :∀f∈fs,f.tag<2147483648) (hfl:fs.length<1000) (hK:qN fs≤1000):kON P F ver flex fs:=by
 intro w v css t ts hv hr ht hk hlen
 have hk5:=ht.five
 unfold ir_sPart at h
 refine kT h hm (by simp) ?_
 clear h
 rw [wpC_seq,kD]
 refine wB (v:=.agg ts.toArray) (by simp) fun w1 hb1 hm1=>?_
 have hb1:Blk w1 w.heap.size ts:=by simpa using hb1
 refine go1 rfl rfl (kE ?_)
 rw [wpC_seq,kD]
 refine go1 rfl rfl (go1 rfl rfl (kE ?_))
 rw [wpC_seq,kD]
 refine go1 rfl rfl (kE ?_)
 obtain ⟨vb,vc,ev'⟩:=hv.shape
 rw [wpC_seq,wpC_seq,kD]
 refine go1 (v:=v) rfl (by simp) ?_
 refine go1 (v:=.int .i64 fs.length) rfl (by simp [ev']) ?_
 refine go1 rfl rfl (kE ?_)
 have hv1:=hv.keep hm1
 have hr1:=hr.keep hm1
 have ht1:=ht.keep hm1
 have hbody:(zI ver flex fs 0 t).length≤lim:=by unfold kC6 at hlen;simp only [List.length_append] at hlen;omega
 refine rangeLoop (n:=fs.length) (fun j σ w'=>σ 21=v∧σ 23=.int .i64 (j:Nat)∧σ 22=.int .i64 (fs.length:Nat)∧σ 0=v∧σ 1=.int .i64 ver∧σ 2=.bool flex∧σ 7=.pointer (some ⟨w.heap.size,0,none⟩)∧σ 10=.slice none 0 0∧σ 11=.int .i64 0 ∧
   DRaw w' w1.heap.size (σ 9) (zI ver flex (fs.take j) 0 t)∧Mod [] w1 w') (by omega) (by omega) (fun j σ w h=>⟨h.2.1,h.2.2.1⟩) ?_ ?_ ?_
 ·exact ⟨by simp,by simp,by simp,by simp,by simp,by simp,by simp,by simp,by simp,by simpa [zI] using DRaw.nil w1 _,Mod.refl _ _⟩
 ·rintro j σ w2 hj ⟨h21,h23,h22,h0,h1,h2,h7,h10,h11,hd,hm2⟩
  obtain ⟨f,hf⟩ :∃f,fs[j]?=some f:=⟨_,List.getElem?_eq_getElem hj⟩
  obtain ⟨fcs,hcs,hrep⟩:=hr1.nth hf
  obtain ⟨a,c,ea,hjn,hcell⟩:=hv1.flat hr1.length hr1.eight hcs
  have hfm:=List.mem_of_getElem? hf
  have hsn:=kFQ (ver:=ver) (flex:=flex) (t:=t) hf
  refine kKL (w0:=w1) (n:=fs.length) (c:=c) (a:=a) (f:=f) (t:=t) hm hh ha hm2 hb1 hrep ht1 hk (hF f hfm) (by simp [h1]) (by simp [h2]) (by simp [h7]) (by simp [h21,ea]) (by simp [h23]) hj hcell (by simpa using hd) (by
   rw [←hsn];exact Nat.le_trans (kCL ver flex fs t _) hbody) fun σ' w' hfr hd' hm'=>?_
  rw [←hsn] at hd'
  simp only [rngP]
  have g :∀s,s<24→s≠9→s≠12→s≠13→σ' s=σ s:=fun s s1 s2 s3 s4=>by rw [hfr s s1 s2 s3 s4,upd_ne _ _ (by omega)]
  refine ⟨by rw [g 23 (by omega) (by omega) (by omega) (by omega)];exact h23,?_,by simp,?_,?_,?_,?_,?_,?_,?_,?_,hm'⟩
  ·simp only [upd];rw [if_neg (by omega),if_neg (by omega),g 21 (by omega) (by omega) (by omega) (by omega)];exact h21
  ·simp only [upd];rw [if_neg (by omega),if_neg (by omega),g 22 (by omega) (by omega) (by omega) (by omega)];exact h22
  ·simp only [upd];rw [if_neg (by omega),if_neg (by omega),g 0 (by omega) (by omega) (by omega) (by omega)];exact h0
  ·simp only [upd];rw [if_neg (by omega),if_neg (by omega),g 1 (by omega) (by omega) (by omega) (by omega)];exact h1
  ·simp only [upd];rw [if_neg (by omega),if_neg (by omega),g 2 (by omega) (by omega) (by omega) (by omega)];exact h2
  ·simp only [upd];rw [if_neg (by omega),if_neg (by omega),g 7 (by omega) (by omega) (by omega) (by omega)];exact h7
  ·simp only [upd];rw [if_neg (by omega),if_neg (by omega),g 10 (by omega) (by omega) (by omega) (by omega)];exact h10
  ·simp only [upd];rw [if_neg (by omega),if_neg (by omega),g 11 (by omega) (by omega) (by omega) (by omega)];exact h11
  ·simpa [upd] using hd'
 ·rintro σ w2 ⟨h21,h23,h22,h0,h1,h2,h7,h10,h11,hd,hm2⟩
  rw [List.take_of_length_le (Nat.le_refl _)] at hd
  have hm02:=hm1.trans hm2
  simp only [kF]
  rw [wpC_seq,wpC_seq,kD]
  refine go1 (v:=.bool flex) rfl (by simp [h2]) ?_
  refine go1 (v:=.bool (!flex)) rfl (by simp) (kE ?_)
  cases flex with
  | false =>
    rw [kI (by simp),wpC_seq,kD]
    refine go1 (v:=σ 9) rfl (by simp) ?_
    refine go1 (v:=σ 9) rfl (by simp) (kE ?_)
    repeat first|refine zP ?_|refine j3 ?_
    refine ret1 (v:=σ 9) (by simp) ⟨_,rfl,?_,hm02⟩
    have:=hd.low hm1.size
    simpa [kC6] using this
  | true =>
    rw [kG (by simp),wpC_skip]
    simp only [kF]
    rw [wpC_seq,wpC_seq,kD]
    refine go1 (v:=v) rfl (by simp [h0]) ?_
    refine qF rfl (vs:=[v]) (by simp) (kC2 hm hkn (hv.keep hm02) (hr.keep hm02) (by omega) htag) ?_
    rintro e w3 ⟨rfl,hm3⟩
    refine ⟨_,rfl,?_⟩
    have hm03:=hm02.trans hm3
    have hKk:=kF1 ver true fs t (qN fs)
    have hcl:(yJ ver true fs t (qN fs)).length≤1000000:=by
     have:qN fs*fs.length≤1000*1000:=Nat.mul_le_mul hK (by omega)
     omega
    have htl:(xO (yJ ver true fs t (qN fs))).length≤lim:=by
     unfold kC6 at hlen;simp only [if_true,List.length_append] at hlen;omega
    have hm13:=hm2.trans hm3
    have hld1:=hv.keep hm03
    refine go1 (v:=.int .i64 (qN fs:Nat)) rfl (by simp [xR (n:=qN fs) (by omega)]) ?_
    refine go1 (v:=.int .i64 (0:Nat)) rfl (by simp) (kP ?_)
    simp only [kF]
    refine rangeLoop (n:=qN fs) (fun k σ' w'=>σ' 51=.int .i64 (qN fs:Nat)∧σ' 52=.int .i64 (k:Nat)∧σ' 0=v∧σ' 1=.int .i64 ver∧σ' 2=.bool true∧σ' 7=.pointer (some ⟨w.heap.size,0,none⟩)∧σ' 9=σ 9 ∧
      DRaw w' w3.heap.size (σ' 10) (xO (yJ ver true fs t k))∧σ' 11=.int .i64 ((yJ ver true fs t k).length:Nat)∧Mod [] w3 w') (by omega) (by omega) (fun j σ w h=>⟨h.2.1,h.1⟩) ?_ ?_ ?_
    ·exact ⟨by simp,by simp,by simp [h0],by simp [h1],by simp [h2],by simp [h7],by simp,by simpa [h10,yJ,xO] using DRaw.nil w3 _,by simp [h11,yJ],Mod.refl _ _⟩
    ·rintro k σ4 w4 hk4 ⟨k51,k52,k0,k1,k2,k7,k9,kd,k11,hm4⟩
     unfold ir_sPart_4
     have hsub :∀j,∃r,xO (yJ ver true fs t (qN fs))=xO (yJ ver true fs t k++jK ver true k (fs.take j) 0 t)++r:=fun j=>by
      obtain ⟨r1,e1⟩:=kI5 ver true fs t (k:=k+1) (K:=qN fs) hk4
      obtain ⟨r2,e2⟩:=kBJ ver true k fs t j
      rw [e1,vJ,e2]
      exact ⟨xO (r2++r1),by rw [←kA5];congr 1;simp [List.append_assoc]⟩
     have hsubc :∀j,(yJ ver true fs t k++jK ver true k (fs.take j) 0 t).length≤1000000:=fun j=>by
      obtain ⟨r1,e1⟩:=kI5 ver true fs t (k:=k+1) (K:=qN fs) hk4
      obtain ⟨r2,e2⟩:=kBJ ver true k fs t j
      have:=hcl
      rw [e1,vJ,e2] at this
      simp only [List.length_append] at this ⊢
      omega
     rw [wpC_seq,kD]
     refine go1 (v:=.int .i64 (k:Nat)) rfl (by simp [k52]) ?_
     refine go1 (v:=.int .i64 (k:Nat)) rfl (by simp) (kP ?_)
     simp only [kF]
     rw [wpC_seq,kD]
     refine go1 (v:=v) rfl (by simp [k0]) ?_
     refine go1 (v:=.int .i64 (fs.length:Nat)) rfl (by simp [ev']) ?_
     refine go1 (v:=.int .i64 (0:Nat)) rfl (by simp) (kP ?_)
     simp only [kF]
     refine rangeLoop (n:=fs.length) (fun j σ' w'=>σ' 55=v∧σ' 57=.int .i64 (j:Nat)∧σ' 56=.int .i64 (fs.length:Nat)∧σ' 51=.int .i64 (qN fs:Nat)∧σ' 52=.int .i64 (k:Nat)∧σ' 14=.int .i64 (k:Nat)∧σ' 0=v∧σ' 1=.int .i64 ver∧σ' 2=.bool true∧σ' 7=.pointer (some ⟨w.heap.size,0,none⟩)∧σ' 9=σ 9 ∧
       DRaw w' w3.heap.size (σ' 10) (xO (yJ ver true fs t k++jK ver true k (fs.take j) 0 t))∧σ' 11=.int .i64 ((yJ ver true fs t k++jK ver true k (fs.take j) 0 t).length:Nat)∧Mod [] w3 w') (by omega) (by omega) (fun j σ w h=>⟨h.2.1,h.2.2.1⟩) ?_ ?_ ?_
     ·exact ⟨by simp,by simp,by simp,by simp [k51],by simp [k52],by simp,by simp [k0],by simp [k1],by simp [k2],by simp [k7],by simp [k9],by simpa [jK] using kd,by simpa [jK] using k11,hm4⟩
     ·rintro j σ5 w5 hj ⟨q55,q57,q56,q51,q52,q14,q0,q1,q2,q7,q9,qd,q11,hm5⟩
      obtain ⟨f,hf⟩ :∃f,fs[j]?=some f:=⟨_,List.getElem?_eq_getElem hj⟩
      obtain ⟨fcs,hcs,hrep⟩:=(hr.keep hm03).nth hf
      obtain ⟨a,c,ea,hjn,hcell⟩:=hld1.flat hr.length hr.eight hcs
      have hfm:=List.mem_of_getElem? hf
      have hsn:=kKK (ver:=ver) (flex:=true) (tag:=k) (t:=t) hf
      obtain ⟨rr,er⟩:=hsub (j+1)
      have hcc:=hsubc j
      refine kOM (w0:=w3) (tb:=w.heap.size) (n:=fs.length) (c:=c) (a:=a) (k:=k) (cnt:=(yJ ver true fs t k++jK ver true k (fs.take j) 0 t).length) (f:=f) (t:=t) (flex:=true) (ver:=ver) hm ha hu hm5 (hb1.mod hm13 (by simp)) hrep (ht.keep hm03) hk (hF f hfm) (fun e=>hUs f hfm (by omega)) (by omega)
       (by simp [q1]) (by simp [q2]) (by simp [q7]) (by simp [q55,ea]) (by simp [q57]) hj hcell (by simp [q14]) (by simp [q11]) (by omega) (by simpa using qd) (by
        rw [←kA5,List.append_assoc,←hsn]
        have:=htl
        rw [er,List.length_append] at this
        omega) fun σ' w' hfr hd' h11' hm'=>?_
      rw [←kA5,List.append_assoc,←hsn] at hd'
      rw [←List.length_append,List.append_assoc,←hsn] at h11'
      simp only [rngP]
      have g :∀s,s<58→s≠10→s≠11→s≠15→s≠16→s≠17→σ' s=σ5 s:=fun s s1 s2 s3 s4 s5 s6=>by rw [hfr s s1 s2 s3 s4 s5 s6,upd_ne _ _ (by omega)]
      refine ⟨by rw [g 57 (by omega) (by omega) (by omega) (by omega) (by omega) (by omega)];exact q57,?_,by simp,?_,?_,?_,?_,?_,?_,?_,?_,?_,?_,?_,hm'⟩
      ·simp only [upd];rw [if_neg (by omega),if_neg (by omega),g 55 (by omega) (by omega) (by omega) (by omega) (by omega) (by omega)];exact q55
      ·simp only [upd];rw [if_neg (by omega),if_neg (by omega),g 56 (by omega) (by omega) (by omega) (by omega) (by omega) (by omega)];exact q56
      ·simp only [upd];rw [if_neg (by omega),if_neg (by omega),g 51 (by omega) (by omega) (by omega) (by omega) (by omega) (by omega)];exact q51
      ·simp only [upd];rw [if_neg (by omega),if_neg (by omega),g 52 (by omega) (by omega) (by omega) (by omega) (by omega) (by omega)];exact q52
      ·simp only [upd];rw [if_neg (by omega),if_neg (by omega),g 14 (by omega) (by omega) (by omega) (by omega) (by omega) (by omega)];exact q14
      ·simp only [upd];rw [if_neg (by omega),if_neg (by omega),g 0 (by omega) (by omega) (by omega) (by omega) (by omega) (by omega)];exact q0
      ·simp only [upd];rw [if_neg (by omega),if_neg (by omega),g 1 (by omega) (by omega) (by omega) (by omega) (by omega) (by omega)];exact q1
      ·simp only [upd];rw [if_neg (by omega),if_neg (by omega),g 2 (by omega) (by omega) (by omega) (by omega) (by omega) (by omega)];exact q2
      ·simp only [upd];rw [if_neg (by omega),if_neg (by omega),g 7 (by omega) (by omega) (by omega) (by omega) (by omega) (by omega)];exact q7
      ·simp only [upd];rw [if_neg (by omega),if_neg (by omega),g 9 (by omega) (by omega) (by omega) (by omega) (by omega) (by omega)];exact q9
      ·simpa [upd] using hd'
      ·simp only [upd];rw [if_neg (by omega),if_neg (by omega)];exact h11'
     ·rintro σ5 w5 ⟨q55,q57,q56,q51,q52,q14,q0,q1,q2,q7,q9,qd,q11,hm5⟩
      rw [List.take_of_length_le (Nat.le_refl _),←vJ] at qd q11
      simp only [rngP]
      refine ⟨by simp [q52],by simp [q51],by simp,by simp [q0],by simp [q1],by simp [q2],by simp [q7],by simp [q9],by simpa using qd,by simp [q11],hm5⟩
    rintro σ3 w3b ⟨k51,k52,k0,k1,k2,k7,k9,kd,k11,hm3b⟩
    simp only [kF]
    have hm03b:Mod [] w w3b:=hm03.trans hm3b
    have hdr3:DRaw w3 w1.heap.size (σ 9) (zI ver true fs 0 t):=hd.keep hm3
    have hw13:w1.heap.size≤w3.heap.size:=(hm2.trans hm3).size
    have hm1b:Mod [] w1 w3b:=(hm2.trans hm3).trans hm3b
    unfold kC6 at hlen ⊢
    simp only [if_true,List.length_append] at hlen ⊢
    generalize yJ ver true fs t (qN fs)=KT at kd k11 hcl htl hlen ⊢
    rw [wpC_seq,wpC_seq,kD]
    have hb3:Blk w3b w.heap.size ts:=hb1.mod hm1b (by simp)
    have c3:=fun k=>hb3.cell k
    cases ht with
    | @mk n s tn l u tsv lv uv tss uss g1 g2 g3 g4 g5 =>
    have hku :∀p∈u,p.1<4294967296:=by simp only [TR.kok] at hk;exact hk.1
    refine go1 (v:=v) rfl (by simp [k0]) ?_
    refine go1 (v:=.pointer (some ⟨w.heap.size,4,none⟩)) rfl (by simp [k7]) ?_
    refine go1 (v:=uv) rfl (by simp [c3]) ?_
    have g5l:RepU (fun b=>b<w1.heap.size) w3b u uss:=g5.mod hm03b (by simp) fun b hb _=>Nat.lt_of_lt_of_le hb hm1.size
    refine qF rfl (vs:=[v,uv]) (by simp) (kCJ (ok:=fun b=>b<w1.heap.size) hm hun hkn (hv.keep hm03b) (hr.keep hm03b) (by omega) htag (g4.keep hm03b) g5l) ?_
    rintro e w4 ⟨lv4,ucs,rfl,hl4,hu4,hlb,hm4⟩
    refine ⟨_,rfl,?_⟩
    simp only [TR.u] at hlen ⊢
    have hku':=kDJ (fs:=fs) hku
    have hul:=kAV fs u
    generalize kU fs u=U at hl4 hu4 hlen hku' hul ⊢
    obtain ⟨ub,uc,eu⟩:=hl4.shape
    have hm14:Mod [] w1 w4:=hm1b.trans hm4
    have kd4:DRaw w4 w3.heap.size (σ3 10) (xO KT):=kd.keep hm4
    have kown :∀b,ownB (σ3 10)=some b→w3.heap.size≤b∧b<w3b.heap.size:=fun b hb=>kd.own hb
    refine go1 (v:=.int .i64 (U.length:Nat)) rfl (by simp [eu]) ?_
    refine go1 (v:=.int .i64 (0:Nat)) rfl (by simp) (kP ?_)
    simp only [kF]
    -- what the tags are laid over stands
    have hkeep :∀{w':World} {v':Value} {l':List UInt8},AppD w1.heap.size w4 (σ3 10) w' v' l'→SlC anyB w' lv4 U.length ucs.flatten∧RepU (fun b=>b<w1.heap.size) w' U ucs:=by
     intro w' v' l' hap
     have hmo:=hap.mod
     refine ⟨?_,hu4.mod hmo (fun b hb hc=>?_) fun _ _ h=>h⟩
     ·rcases hlb with rfl|⟨B,n',c',e',hB⟩
      ·obtain ⟨base,cp,e1,e2,e3,e4⟩:=hl4
       refine ⟨base,cp,e1,e2,e3,fun a ha hc=>?_⟩
       rw [ha] at e1;simp at e1
      ·obtain ⟨base,cp,e1,e2,e3,e4⟩:=hl4
       refine ⟨base,cp,e1,e2,e3,fun a ha hc=>?_⟩
       obtain ⟨q1,q2,q3⟩:=e4 a ha hc
       have ea:a.block=B:=by
        rw [e',ha] at e1
        simp only [Value.slice.injEq,Option.some.injEq] at e1
        rw [←e1.1]
       refine ⟨trivial,Nat.lt_of_lt_of_le q2 hmo.size,q3.of_eq (hmo.block _ q2 fun hc=>?_)⟩
       have:=kown _ (by simpa using hc)
       omega
     ·have:=kown b (by simpa using hb);omega
    refine rangeLoop (n:=U.length)
     (fun j σ' w'=>σ' 100=lv4∧σ' 102=.int .i64 (j:Nat)∧σ' 101=.int .i64 (U.length:Nat)∧σ' 11=.int .i64 ((KT.length+j:Nat):Int)∧σ' 9=σ 9∧AppD w1.heap.size w4 (σ3 10) w' (σ' 10) (xO KT++y7 (U.take j))∧Mod [] w1 w')
     (by omega) (by omega) (fun j σ w h=>⟨h.2.1,h.2.2.1⟩) ?_ ?_ ?_
    ·exact ⟨by simp,by simp,by simp,by simp [k11],by simp [k9],by simpa [y7] using AppD.refl (kd4.low hw13),hm14⟩
    ·rintro j σ5 w5 hj ⟨q100,q102,q101,q11,q9,qd,qm⟩
     obtain ⟨p,hp⟩ :∃p,U[j]?=some p:=⟨_,List.getElem?_eq_getElem hj⟩
     obtain ⟨hl5,hu5⟩:=hkeep qd
     obtain ⟨psv,hps,hpsv⟩:=hu5.nth hp
     obtain ⟨a,c,ea,hjn,hcell⟩:=hl5.flat hu5.length hu5.two hps
     have hpm:=List.mem_of_getElem? hp
     have hsn:=kFR hp
     refine kOO (w0:=w1) (n:=U.length) (c:=c) (a:=a) (k:=p.1) (b:=p.2) (cnt:=KT.length+j) hm hu hw qm (by simp [q100,ea]) (by simp [q102]) hj hul (by simp [q11]) (by omega) (hku' p hpm) hcell hpsv (by simpa using qd.raw) (by
      rw [List.append_assoc,←hsn]
      have:=vG (fun p:Nat×List UInt8=>uvE p.1++(uvE (kN p.2).length++kN p.2)) U (j+1)
      simp only [List.length_append] at hlen ⊢
      unfold y7 at hlen ⊢;omega) fun σ' w' hfr h11' hd' hm'=>?_
     rw [List.append_assoc,←hsn] at hd'
     simp only [rngP]
     have g :∀s,s<104→s≠10→s≠11→s≠19→s≠20→s≠103→σ' s=σ5 s:=fun s s1 s2 s3 s4 s5 s6=>by rw [hfr s s1 s2 s3 s4 s5,upd_ne _ _ s6]
     refine ⟨by rw [g 102 (by omega) (by omega) (by omega) (by omega) (by omega) (by omega)];exact q102,?_,by simp,?_,?_,?_,?_,hm'⟩
     ·simp only [upd];rw [if_neg (by omega),if_neg (by omega),g 100 (by omega) (by omega) (by omega) (by omega) (by omega) (by omega)];exact q100
     ·simp only [upd];rw [if_neg (by omega),if_neg (by omega),g 101 (by omega) (by omega) (by omega) (by omega) (by omega) (by omega)];exact q101
     ·simp only [upd];rw [if_neg (by omega),if_neg (by omega),h11'];rfl
     ·simp only [upd];rw [if_neg (by omega),if_neg (by omega),g 9 (by omega) (by omega) (by omega) (by omega) (by omega) (by omega)];exact q9
     ·have:=qd.trans (by simpa using hd')
      simpa [upd] using this
    ·rintro σ5 w5 ⟨q100,q102,q101,q11,q9,qd,qm⟩
     rw [List.take_of_length_le (Nat.le_refl _)] at qd
     have hdr5:DRaw w5 w1.heap.size (σ 9) (zI ver true fs 0 (.mk n s tn l u)):=((hdr3.keep hm3b).keep hm4).mod qd.mod fun b hb hc=>by
      have h1:=(hdr3.own hb).2
      have h2:=(kown b (by simpa using hc)).1
      omega
     simp only [kF]
     rw [wpC_seq,kD]
     refine go1 (v:=σ 9) rfl (by simp [q9]) ?_
     refine go1 (v:=.int .i64 ((KT.length+U.length:Nat):Int)) rfl (by simp [q11]) ?_
     refine go1 (v:=.int .u64 ((KT.length+U.length:Nat):Int)) rfl (by simp only [RK.val?,ev,updo,upd_same];rw [xL (n:=KT.length+U.length) (by omega)]) ?_
     refine qF rfl (vs:=[.int .u64 ((KT.length+U.length:Nat):Int)]) (by simp) (jS hm hu (by omega)) ?_
     rintro e w6 ⟨v6,rfl,hd6,hm6⟩
     refine ⟨v6,rfl,?_⟩
     have r0:=hdr5.keep hm6
     have hm16:Mod [] w1 w6:=qm.trans hm6
     refine goC rfl ?_
     refine qR (n0:=w1.heap.size) (v:=σ 9) (by simp) r0 hm16.size (k:=uvE (KT.length+U.length)) (by simpa using hd6.src) (by omega) fun v7 w7 ha7=>?_
     have hm17:=ha7.mod0 r0 hm16
     have qd7:DRaw w7 w1.heap.size (σ5 10) (xO KT++y7 U):=(qd.raw.keep hm6).mod ha7.mod fun b hb hc=>by
      have h1:=(hdr3.own (b:=b) (by simpa using hc)).2
      rcases qd.own b hb with h2|h2
      ·have:=(kown b h2).1;omega
      ·have:=hm3b.size;have:=hm4.size;omega
     refine go1 (v:=σ5 10) rfl (by simp) ?_
     refine goC rfl ?_
     refine qR (n0:=w1.heap.size) (v:=v7) (by simp) ha7.raw hm17.size (k:=xO KT++y7 U) (by simpa using qd7.src) (by simp only [List.length_append];omega) fun v8 w8 ha8=>?_
     have hm18:=ha8.mod0 ha7.raw hm17
     refine go1 (v:=v8) rfl (by simp) (kE ?_)
     refine ret1 (v:=v8) (by simp) ⟨v8,rfl,?_,hm1.trans hm18⟩
     have:=ha8.raw.low hm1.size
     simpa [List.append_assoc] using this
end
def Fl.tl:Fl→Bool
 | .nil=>false
 | .prm _ rest=>rest.tl
 | .lsp _ _ rest=>rest.tl
 | .lss _ _ _ rest=>rest.tl
 | .tags _=>true
def Fl.mkB (ver:Int) (x:Bool):Fl→List FD→Ap→Bool
 | .nil,fds,ap=>match fds,ap with
   | [],.nil=>true
   | _,_=>false
 | .tags _,fds,ap=>match fds,ap with
   | [],.tags _ _ _=>true
   | _,_=>false
 | .prm p rest,fds,ap=>match fds,ap with
   | f::fs,.prm vc _ p' _ rest'=>decide (f.tag<0)&&fOk p&&!p.eqB .uuid&&(vc.holds ver==f.hasV ver)&&(!f.hasV ver||(kindOk f.kind (f.nulB ver) p&&p.eqB p'))&&rest.mkB ver x fs rest'
   | f::fs,.uid vc _ rest'=>decide (f.tag<0)&&p.eqB .uuid&&(vc.holds ver==f.hasV ver)&&(!f.hasV ver||decide (f.kind=7))&&rest.mkB ver x fs rest'
   | _,_=>false
 | .lsp p _ rest,fds,ap=>match fds,ap with
   | f::fs,.lsp vc nul _ p' _ rest'=>decide (f.tag<0)&&decide (f.kind=11)&&fOk p&&(vc.holds ver==f.hasV ver)&&(!f.hasV ver||((!f.nulB ver||nul)&&kindOk f.of false p&&p.eqB p'&&!p.eqB .uuid))&&rest.mkB ver x fs rest'
   | _,_=>false
 | .lss _ _ body rest,fds,ap=>match fds,ap with
   | f::fs,.lss vc nul _ sz body' rest'=>decide (f.tag<0)&&decide (f.kind=11)&&(vc.holds ver==f.hasV ver)&&(!f.hasV ver||((!f.nulB ver||nul)&&decide (f.of=10)&&decide (body.z.length=sz)&&FD.zN f.sub&&(!x||body.tl)&&body.mkB ver x f.sub body'))&&rest.mkB ver x fs rest'
   | _,_=>false
def mkOk (fl:Fl) (A:ATop) (m:MD) (most:Nat):Bool:=FD.zN m.fs&&FD.fitBL m.fs&&(List.range (most+1)).all fun v=>(A.x (v:Nat)==m.qZ (v:Nat))&&(!m.qZ (v:Nat)||fl.tl)&&fl.mkB (v:Nat) (m.qZ (v:Nat)) m.fs A.ap
theorem kE2 (ver:Int) (flex:Bool) (k:Nat) (t:TR) :∀(fs:List FD) (i:Nat),(∀f∈fs,f.tag≠(k:Nat))→jK ver flex k fs i t=[]
 | [],_,_=>rfl
 | f::fs,i,h=>by
   simp only [jK]
   rw [if_neg (fun hc=>h f (by simp) hc.1),kE2 ver flex k t fs (i+1) (fun g hg=>h g (by simp [hg]))]
   rfl
theorem kF2 (ver:Int) (flex:Bool) (t:TR) :∀(fs:List FD) (i:Nat),(∀f∈fs,0≤f.tag)→zI ver flex fs i t=[]
 | [],_,_=>rfl
 | f::fs,i,h=>by
   rw [kBC,if_neg (fun hc=>by have:=h f (by simp);omega),kF2 ver flex t fs (i+1) (fun g hg=>h g (by simp [hg]))]
   rfl
theorem kMD (ver:Int) (flex:Bool) (k:Nat) (t:TR) {pf:List FD} (hp:FD.zN pf=true) (tg:List FD):jK ver flex k (pf++tg) 0 t=jK ver flex k tg pf.length t:=by
 rw [wJ,kE2 ver flex k t pf 0 (fun f hf e=>by have:=FD.plain.tag (FD.yE hp f hf);omega),Nat.zero_add]
 rfl
theorem kKM {fs:List FD} {u:List (Nat×List UInt8)} (h :∀p∈u,p.1<4294967296):Ris (kU fs u):=by
 have gen :∀(v acc:List (Nat×List UInt8)),(∀p∈v,p.1<4294967296)→Ris acc→Ris (v.foldl (zS (qN fs)) acc):=by
  intro v
  induction v with
  | nil=>intro acc _ ha;exact ha
  | cons p v ih =>
    intro acc hv ha
    simp only [List.foldl_cons]
    refine ih _ (fun q hq=>hv q (by simp [hq])) ?_
    unfold zS
    split
    ·exact ha
    ·exact kG1 (hv p (by simp)) ha
 exact gen (u.take 32767) [] (fun p hp=>h p (List.mem_of_mem_take hp)) ⟨by simp,by simp⟩
def FD.hasW (f:FD) (ver:Int) (flex:Bool) (x:TR):Bool:=if f.tag<0 then f.hasV ver else flex&&!f.isUs x
def kE3 (ver:Int) (flex:Bool):List FD→Nat→TR→List TR→Prop
 | [],_,_,gl=>gl=[]
 | f::fs,i,t,gl =>∃g r,gl=g::r∧(f.hasW ver flex (t.at i)=true→f.kAZ ver flex (t.at i) g)∧(f.hasW ver flex (t.at i)=false→f.kAY g)∧kE3 ver flex fs (i+1) t r
def kQX (ver:Int) (flex:Bool) (sub:List FD) (y h:TR):Prop:=kE3 ver flex sub 0 y h.l∧h.u=(if flex then zT (kU sub y.u) else [])
def PartTK (P:Program) (F:Nat→Nat) (ver:Int) (flex:Bool) (sub:List FD):Prop :=
 ∀(w:World) (sv:Value) (css:List (List Value)) (t:TR) (ts:List Value) (g:TR) (gs:List Value),SlC anyB w sv sub.length css.flatten→jU anyB w sub css→RepT anyB w t ts→RepT anyB w g gs→kQX ver flex sub t g →
   Calls P (F kHV) [sv,.int .i64 ver,.bool flex,.agg ts.toArray,.agg gs.toArray].toArray w (kG6 w)
theorem kI6 {ver:Int} {flex:Bool} :∀{fds:List FD} {i:Nat} {t:TR} {gl:List TR},kE3 ver flex fds i t gl→gl.length=fds.length
 | [],i,t,gl,h=>by simp only [kE3] at h;subst h;rfl
 | f::fds,i,t,gl,h=>by
   simp only [kE3] at h
   obtain ⟨g,r,rfl,-,-,h⟩:=h
   simp [kI6 h]
theorem kI7 {ver:Int} {flex:Bool} :∀{fds:List FD} {i:Nat} {t:TR} {gl:List TR} {j:Nat} {f:FD} {g:TR},kE3 ver flex fds i t gl→fds[j]?=some f→gl[j]?=some g→(f.hasW ver flex (t.at (i+j))=true→f.kAZ ver flex (t.at (i+j)) g)∧(f.hasW ver flex (t.at (i+j))=false→f.kAY g)
 | f0::fds,i,t,gl,0,f,g,h,hf,hg=>by
   simp only [kE3] at h
   obtain ⟨g0,r,rfl,h1,h2,-⟩:=h
   simp only [List.getElem?_cons_zero,Option.some.injEq] at hf hg
   subst hf;subst hg
   rw [Nat.add_zero]
   exact ⟨h1,h2⟩
 | f0::fds,i,t,gl,j+1,f,g,h,hf,hg=>by
   simp only [kE3] at h
   obtain ⟨g0,r,rfl,-,-,h⟩:=h
   have:=kI7 h (by simpa using hf) (by simpa using hg)
   rwa [show i+(j+1)=i+1+j by omega]
section
variable {P:Program} {F:Nat→Nat}
attribute [local simp] gOk updo upd ev RK.val? kL kM Addr.kK qE Value.cells undef
theorem kOP (hm:P.follows .mixedOrders=true) (hh:kH P (F sHas)=some (ir_sHas F)) {w:World} {fb xb:Nat} {f:FD} {fcs xcs:List Value} {x:TR} {ver:Int} {flex:Bool} {σ:Sl} {Q:Exit→Sl→World→Prop} (hb:Blk w fb fcs) (hr:RepF anyB w f fcs) (hbx:Blk w xb xcs) (hrx:RepT anyB w x xcs) (hUs:0≤f.tag→UsC P F f)
  (h1:σ 1=.int .i64 ver) (h2:σ 2=.bool flex) (h12:σ 12=.pointer (some ⟨fb,0,none⟩)) (h13:σ 13=.pointer (some ⟨xb,0,none⟩))
  (hQ :∀σ' w',(∀s,s<33→σ' s=σ s)→σ' 54=.bool (f.hasW ver flex x)→Mod [] w w'→Q .normal σ' w'):wpC P (ir_sTold_1 F) Q σ w:=by
 by_cases htag:f.tag<0
 ·refine kK7 hm hh hb hr htag h1 h12 fun σ' w' a b c=>hQ σ' w' a ?_ c
  rw [b,FD.hasW,if_pos htag]
 have hw:f.hasW ver flex x=(flex&&!f.isUs x):=by rw [FD.hasW,if_neg htag]
 rw [hw] at hQ
 have hU:=hUs (by omega)
 unfold ir_sTold_1
 have h8:=hr.eight
 have h5:=hrx.five
 have ht4:fcs[4]?=some (.int .i64 f.tag):=by cases hr;rfl
 have c1:=fun k=>hb.cell k
 have hld:=kJ hb.cells h8
 have hlx:=kJ hbx.cells h5
 have et:decide (f.tag<0)=false:=by simp;omega
 have eg:decide (f.tag≥0)=true:=by simp;omega
 rw [kD]
 refine go1 (v:=.pointer (some ⟨fb,4,none⟩)) rfl (by simp [h12]) ?_
 refine go1 (v:=.int .i64 f.tag) rfl (by simp [c1,ht4]) ?_
 refine go1 (v:=.bool false) rfl (by simp [et]) ?_
 refine go1 (v:=.bool false) rfl (by simp) ?_
 iterate 3 (refine go0 (by simp) ?_)
 refine go1 (v:=.bool false) rfl (by simp) ?_
 refine go1 (v:=.bool false) rfl (by simp) ?_
 refine go1 (v:=.pointer (some ⟨fb,4,none⟩)) (by simp) (by simp [h12]) ?_
 refine go1 (v:=.int .i64 f.tag) (by simp) (by simp [c1,ht4]) ?_
 refine go1 (v:=.bool true) (by simp) (by simp [eg]) ?_
 refine go1 (v:=.bool true) (by simp) (by simp) ?_
 refine go1 (v:=.bool flex) (by simp) (by simp [h2]) ?_
 refine go1 (v:=.bool flex) (by simp) (by simp) ?_
 refine go1 (v:=.bool flex) (by simp) (by simp) ?_
 cases flex with
 | false =>
   iterate 4 (refine go0 (by simp) ?_)
   refine go1 (v:=.bool false) (by simp) (by simp) ?_
   refine go1 (v:=.bool false) rfl (by simp) (kP ?_)
   refine hQ _ w (fun s hs=>?_) (by simp) (Mod.refl _ _)
   simp only [updo,upd]
   repeat rw [if_neg (by omega)]
 | true =>
   refine go1 (v:=.agg fcs.toArray) (by simp) (by simp [h12,hld]) ?_
   refine go1 (v:=.agg xcs.toArray) (by simp) (by simp [h13,hlx]) ?_
   refine qF (by simp) (vs:=[.agg fcs.toArray,.agg xcs.toArray]) (by simp) (hU w fcs x xcs hr hrx) ?_
   rintro e w' ⟨rfl,hm'⟩
   refine ⟨_,rfl,?_⟩
   refine go1 (v:=.bool !(f.isUs x)) (by simp) (by simp) ?_
   refine go1 (v:=.bool !(f.isUs x)) (by simp) (by simp) ?_
   refine go1 (v:=.bool !(f.isUs x)) rfl (by simp) (kP ?_)
   refine hQ _ w' (fun s hs=>?_) (by simp) hm'
   simp only [updo,upd]
   repeat rw [if_neg (by omega)]
theorem kME (hm:P.follows .mixedOrders=true) (h:kH P (F kHV)=some (ir_sTold F)) (hat:kH P (F sAt)=some (ir_sAt F)) (hh:kH P (F sHas)=some (ir_sHas F)) (hw:kH P (F yR)=some (ir_sWhole F)) (hs:kH P (F vW)=some (ir_sSame F)) (hkn:kH P (F vR)=some (ir_sKnown F)) (hun:kH P (F yA)=some (ir_sUnknown F))
  {ver:Int} {flex:Bool} {fds:List FD} (hlen:fds.length<1000) (htag :∀f∈fds,f.tag<2147483648) (hUs :∀f∈fds,0≤f.tag→UsC P F f) (hF :∀f∈fds,kBI P F ver flex f) (hU :∀f∈fds,kA0 P F [f]):PartTK P F ver flex fds:=by
 intro w sv css t ts g gs hsv hr ht hg htd
 obtain ⟨htd,hgu⟩:=htd
 have hgl:=kI6 htd
 have ht0:=ht
 have hg0:=hg
 cases ht with
 | @mk n s tn l u tsv lv uv tss uss a1 a2 a3 a4 a5 =>
 cases hg with
 | @mk gn gs' gb' gl gu gsv glv guv gss guss b1 b2 b3 b4 b5 =>
 simp only [TR.l,TR.u] at htd hgu hgl
 unfold ir_sTold at h
 refine kT h hm (by simp) ?_
 clear h
 obtain ⟨sb,sc,es⟩:=hsv.shape
 obtain ⟨gb0,gc0,egl⟩:=b2.shape
 obtain ⟨gu0,gu1,egu⟩:=b4.shape
 rw [wpC_seq,kD]
 refine wB (v:=.agg #[.int .i64 n,tsv,.bool tn,lv,uv]) (by simp) fun w1 hb1 hm1=>?_
 refine wB (v:=.agg #[.int .i64 gn,gsv,.bool gb',glv,guv]) (by simp) fun w2 hb2 hm2=>?_
 refine go1 (v:=.bool false) rfl (by simp) (kP ?_)
 simp only [kF]
 have hb1:Blk w2 w.heap.size [.int .i64 n,tsv,.bool tn,lv,uv]:=Blk.mod (by simpa using hb1) hm2 (by simp)
 have hb2:Blk w2 w1.heap.size [.int .i64 gn,gsv,.bool gb',glv,guv]:=by simpa using hb2
 have hm02:=hm1.trans hm2
 have c2:=fun k=>hb2.cell k
 rw [wpC_seq,wpC_seq,kD]
 refine go1 (v:=.pointer (some ⟨w1.heap.size,3,none⟩)) rfl (by simp) ?_
 refine go1 (v:=glv) rfl (by simp [c2]) ?_
 refine go1 (v:=.int .i64 (gl.length:Nat)) rfl (by simp [egl]) ?_
 refine go1 (v:=sv) rfl (by simp) ?_
 refine go1 (v:=.int .i64 (fds.length:Nat)) rfl (by simp [es]) ?_
 refine go1 (v:=.bool false) rfl (by simp [hgl]) (kP ?_)
 simp only [kF]
 rw [kG (by simp),wpC_skip]
 simp only [kF]
 rw [wpC_seq,wpC_seq,kD]
 refine go1 (v:=sv) rfl (by simp) ?_
 refine go1 (v:=.int .i64 (fds.length:Nat)) rfl (by simp [es]) ?_
 refine go1 (v:=.int .i64 (0:Nat)) rfl (by simp) (kP ?_)
 simp only [kF]
 refine rangeLoop (n:=fds.length) (fun j σ w'=>(σ 0=sv∧σ 1=.int .i64 ver∧σ 2=.bool flex∧σ 8=.pointer (some ⟨w.heap.size,0,none⟩)∧σ 9=.pointer (some ⟨w1.heap.size,0,none⟩)∧σ 23=sv)∧σ 25=.int .i64 (j:Nat)∧σ 24=.int .i64 (fds.length:Nat)∧Mod [] w2 w') (by omega) (by omega) (fun j σ w h=>⟨h.2.1,h.2.2.1⟩) ?_ ?_ ?_
 ·exact ⟨⟨by simp,by simp,by simp,by simp,by simp,by simp⟩,by simp,by simp,Mod.refl _ _⟩
 ·rintro j σ w3 hj ⟨⟨k0,k1,k2,k8,k9,k23⟩,k25,k24,hm3⟩
  have hm03:=hm02.trans hm3
  obtain ⟨fd,hfd⟩ :∃f,fds[j]?=some f:=⟨fds[j],by simp [hj]⟩
  obtain ⟨y,hy⟩ :∃y,gl[j]?=some y:=⟨_,List.getElem?_eq_getElem (by omega)⟩
  obtain ⟨q1,q2⟩:=kI7 htd hfd hy
  rw [Nat.zero_add] at q1 q2
  obtain ⟨cs,hcs,hrep⟩:=hr.nth hfd
  obtain ⟨ycs,hycs,hyr⟩:=b3.nth hy
  obtain ⟨a,c,ea,hjn,hcell⟩:=hsv.flat hr.length hr.eight hcs
  obtain ⟨a2,c2',ea2,hjn2,hcell2⟩:=b2.flat b3.length b3.five hycs
  have hcell':kV w3 (a.add (j*8)) 0 8=some cs:=qA hm03.below _ _ _ hcell
  rw [ea] at k23
  unfold ir_sTold_4
  rw [wpC_seq,kD]
  refine go1 (v:=.int .i64 (j:Nat)) rfl (by simp [k25]) ?_
  refine go1 (v:=.pointer (some (a.add (j*8)))) rfl (by simp [k23,k25,hj]) ?_
  refine go1 (v:=.agg cs.toArray) rfl (by simp [hcell']) ?_
  refine jI fun w4 hb4 hm4=>?_
  refine go1 (v:=.int .i64 (j:Nat)) rfl (by simp) ?_
  refine goSt (b:=w3.heap.size) (v:=.agg cs.toArray) (by simp) (by simp) hb4 (by simpa using hrep.eight) rfl (by simpa using hrep.oneCell) fun w5 hb5 hm5=>kP ?_
  simp only [kF]
  have hb5:Blk w5 w3.heap.size cs:=by simpa using hb5
  have hm35:Mod [] w3 w5:=Mod.drop (b:=w3.heap.size) (S:=[]) (hm4.nil.trans hm5) (Nat.le_refl _)
  have hm25:=hm3.trans hm35
  have hld1:=kJ (hb1.mod hm25 (by simp)).cells (n:=5) rfl
  rw [wpC_seq,kD]
  refine go1 (v:=.agg #[.int .i64 n,tsv,.bool tn,lv,uv]) rfl (by simp [k8,hld1]) ?_
  refine go1 (v:=.int .i64 (j:Nat)) rfl (by simp) ?_
  refine qF rfl (vs:=[.agg #[.int .i64 n,tsv,.bool tn,lv,uv],.int .i64 (j:Nat)]) (by simp) (kAP hm hat (ht0.keep (hm02.trans hm25))) ?_
  rintro e w6 ⟨xs,rfl,hx,hm6⟩
  refine ⟨_,rfl,?_⟩
  refine jI fun w7 hb7 hm7=>?_
  refine goSt (b:=w6.heap.size) (v:=.agg xs.toArray) (by simp) (by simp) hb7 (by simpa using hx.five) rfl (by simpa using hx.oneCell) fun w8 hb8 hm8=>kP ?_
  simp only [kF]
  have hb8:Blk w8 w6.heap.size xs:=by simpa using hb8
  have hm68:Mod [] w6 w8:=Mod.drop (b:=w6.heap.size) (S:=[]) (hm7.nil.trans hm8) (Nat.le_refl _)
  have hm58:=hm6.trans hm68
  have hm28:=hm25.trans hm58
  rw [wpC_seq,wpC_seq]
  refine kOP (ver:=ver) (flex:=flex) hm hh (hb5.mod hm58 (by simp)) (hrep.keep (hm02.trans hm28)) hb8 (hx.keep hm68) (hUs fd (List.mem_of_getElem? hfd)) (by simp [k1]) (by simp [k2]) (by simp) (by simp) fun σ9 w9 hfr9 h54 hm9=>?_
  simp only [kF]
  have hm29:=hm28.trans hm9
  have hm09:=hm02.trans hm29
  have hv9 :∀s,s<26→s≠11→s≠12→s≠13→σ9 s=σ s:=fun s h1 h2 h3 h4=>by
   rw [hfr9 s (by omega)];simp only [updo,upd];repeat rw [if_neg (by omega)]
  have h11:σ9 11=.int .i64 (j:Nat):=by rw [hfr9 11 (by omega)];simp
  have h12:σ9 12=.pointer (some ⟨w3.heap.size,0,none⟩):=by rw [hfr9 12 (by omega)];simp
  have h13:σ9 13=.pointer (some ⟨w6.heap.size,0,none⟩):=by rw [hfr9 13 (by omega)];simp
  have nxt :∀(σ':Sl) (w':World),(∀s,s<26→s≠11→s≠12→s≠13→σ' s=σ s)→Mod [] w2 w'→σ' 25=.int .i64 (j:Nat)∧(fun (j:Nat) (σ:Sl) (w':World)=>(σ 0=sv∧σ 1=.int .i64 ver∧σ 2=.bool flex∧σ 8=.pointer (some ⟨w.heap.size,0,none⟩)∧σ 9=.pointer (some ⟨w1.heap.size,0,none⟩)∧σ 23=sv)∧σ 25=.int .i64 (j:Nat)∧σ 24=.int .i64 (fds.length:Nat)∧Mod [] w2 w') (j+1) (upd (upd σ' 77 (.int .i64 ((j+1:Nat):Int))) 25 (.int .i64 ((j+1:Nat):Int))) w':=by
   intro σ' w' hfr hm'
   refine ⟨by rw [hfr 25 (by omega) (by omega) (by omega) (by omega)];exact k25,⟨?_,?_,?_,?_,?_,?_⟩,by simp,?_,hm'⟩
   all_goals simp only [upd];rw [if_neg (by omega),if_neg (by omega),hfr _ (by omega) (by omega) (by omega) (by omega)]
   ·exact k0
   ·exact k1
   ·exact k2
   ·exact k8
   ·exact k9
   ·rw [k23,ea]
   ·exact k24
  cases hvv:fd.hasW ver flex (TR.at (.mk n s tn l u) j) with
  | true =>
    rw [hvv] at h54
    rw [kI (by simp [h54]),wpC_seq]
    refine kK8 (hb5.mod (hm58.trans hm9) (by simp)) (hb8.mod hm9 (by simp)) (hb2.mod hm29 (by simp)) (hrep.keep hm09) (hx.keep (hm68.trans hm9)) (hyr.keep hm09) (by rw [hv9 1 (by omega) (by omega) (by omega) (by omega)];exact k1) (by rw [hv9 2 (by omega) (by omega) (by omega) (by omega)];exact k2) (by rw [hv9 9 (by omega) (by omega) (by omega) (by omega)];exact k9) h11 h12 h13
     (by rw [ea2];rfl) hjn2 (qA hm09.below _ _ _ hcell2) (hF fd (List.mem_of_getElem? hfd)) (q1 hvv) fun σ10 w10 hfr10 hm10=>?_
    simp only [kF,wpC,rngP,if_true]
    exact nxt σ10 w10 (fun s h1 h2 h3 h4=>by rw [hfr10 s (by omega)];exact hv9 s h1 h2 h3 h4) (hm29.trans hm10)
  | false =>
    rw [hvv] at h54
    rw [kG (by simp [h54]),wpC_skip]
    simp only [kF]
    rw [wpC_seq]
    refine kOB (hb5.mod (hm58.trans hm9) (by simp)) (hb2.mod hm29 (by simp)) (hrep.keep hm09) (hyr.keep hm09) (by rw [hv9 9 (by omega) (by omega) (by omega) (by omega)];exact k9) h11 h12 (by rw [ea2];rfl) hjn2 (qA hm09.below _ _ _ hcell2) (hU fd (List.mem_of_getElem? hfd)) (q2 hvv) fun σ10 w10 hfr10 h76 hm10=>?_
    simp only [kF]
    rw [kG (by simp [h76]),wpC_skip]
    exact nxt σ10 w10 (fun s h1 h2 h3 h4=>by rw [hfr10 s (by omega)];exact hv9 s h1 h2 h3 h4) (hm29.trans hm10)
 ·rintro σ w3 ⟨⟨k0,k1,k2,k8,k9,k23⟩,k25,k24,hm3⟩
  have hm03:=hm02.trans hm3
  simp only [kF]
  have c1:=fun k=>(hb1.mod hm3 (by simp)).cell k
  rw [wpC_seq,kD]
  refine go1 (v:=sv) rfl (by simp [k0]) ?_
  refine go1 (v:=.pointer (some ⟨w.heap.size,4,none⟩)) rfl (by simp [k8]) ?_
  refine go1 (v:=uv) rfl (by simp [c1]) ?_
  refine qF rfl (vs:=[sv,uv]) (by simp) (vS hm hun hkn (hsv.keep hm03) (hr.keep hm03) (by omega) (fun f hf=>by have:=htag f hf;omega) (a4.keep hm03) (a5.keep hm03)) ?_
  rintro e w4 ⟨lv4,ucs,rfl,hl4,hu4,hm4⟩
  refine ⟨lv4,rfl,go1 (v:=lv4) rfl (by simp) (kP ?_)⟩
  simp only [kF]
  have hm24:=hm3.trans hm4
  have hm04:=hm02.trans hm24
  have hb24:=hb2.mod hm24 (by simp)
  have c9:=fun k=>hb24.cell k
  have key :∀(σ':Sl) (lv':Value) (L:List (Nat×List UInt8)) (ucs:List (List Value)),σ' 9=.pointer (some ⟨w1.heap.size,0,none⟩)→σ' 14=lv'→SlC anyB w4 lv' L.length ucs.flatten→RepU anyB w4 L ucs→L.length≤32767→gu=zT L →
    wpC P (.seq (.seq (.blk [⟨(some (84)),.fad (.tmp 9) 4,none⟩,⟨(some (85)),.ld (.tmp 84),none⟩,⟨(some (86)),.len (.tmp 85),none⟩,⟨(some (87)),.mv (.tmp 14),none⟩,⟨(some (88)),.len (.tmp 87),none⟩,⟨(some (89)),.bin .neq (.tmp 86) (.tmp 88),none⟩])
     (.cond (.tmp 89) (.seq (.blk [⟨(some (10)),.mv (.const (.bool false)),none⟩]) (.ret)) (.skip)))
     (.seq (ir_sTold_6 F) (.seq (.blk [⟨(some (10)),.mv (.const (.bool true)),none⟩]) (.ret)))) (postC [.tmp 10] (kG6 w)) σ' w4:=by
   intro σ' lv' L ucs h9 h14 hl hu hL he
   obtain ⟨b',c',el'⟩:=hl.shape
   have hgl:gu.length=L.length:=by rw [he];simp [zT]
   rw [wpC_seq,wpC_seq,kD]
   refine go1 (v:=.pointer (some ⟨w1.heap.size,4,none⟩)) rfl (by simp [h9]) ?_
   refine go1 (v:=guv) rfl (by simp [c9]) ?_
   refine go1 (v:=.int .i64 (gu.length:Nat)) rfl (by simp [egu]) ?_
   refine go1 (v:=lv') rfl (by simp [h14]) ?_
   refine go1 (v:=.int .i64 (L.length:Nat)) rfl (by simp [el']) ?_
   refine go1 (v:=.bool false) rfl (by simp [hgl]) (kP ?_)
   simp only [kF]
   rw [kG (by simp),wpC_skip]
   simp only [kF]
   rw [wpC_seq]
   refine kIY hm hw hs hb24 (by simp [h9]) (by simp [h14]) rfl hl hu (b4.keep hm04) (b5.keep hm04) hL he fun σ5 w5 hm5=>?_
   simp only [kF]
   rw [wpC_seq,kD]
   refine go1 (v:=.bool true) rfl (by simp) (kP ?_)
   simp only [kF]
   exact ret1 (v:=.bool true) (by simp) ⟨rfl,hm04.trans hm5⟩
  rw [wpC_seq,wpC_seq,kD]
  refine go1 (v:=.bool flex) rfl (by simp [k2]) ?_
  refine go1 (v:=.bool !flex) rfl (by simp) (kP ?_)
  simp only [kF]
  cases flex with
  | true =>
    rw [kG (by simp),wpC_skip]
    simp only [kF]
    exact key _ lv4 (kU fds u) ucs (by simp [k9]) (by simp) hl4 hu4 (kDL _ _) (by simpa using hgu)
  | false =>
    rw [kI (by simp),kD]
    refine go1 (v:=.slice none 0 0) rfl (by simp) (kP ?_)
    simp only [kF]
    exact key _ (.slice none 0 0) [] [] (by simp [k9]) (by simp) SlC.nil .nil (by simp) (by simpa [zT] using hgu)
end
def Sc.rv0B (ver:Int):Sc→List FD→Bool
 | .nil,fds=>fds.isEmpty
 | .prm vc _ _ p d rest,fds=>match fds with
   | f::fs=>decide (f.tag<0)&&(vc.holds ver==f.hasV ver)&&(!f.hasV ver||kindOk f.kind (f.nulB ver) p)&&(if f.hasV ver then decide (f.kind=8)||!f.nulB ver else f.usB d.gv.told)&&rest.rv0B ver fs
   | []=>false
 | _,_=>false
theorem Sc.rv0 {ver:Int} {x:Bool} :∀(sc:Sc) (fds:List FD) (i:Nat) (t:TR),sc.rv0B ver fds=true →∀r,sc.dec jM ver x (at_ (zI ver x fds i t++r))=some (sc.vals ver x fds i t,at_ r):=by
 intro sc
 induction sc with
 | nil =>
   intro fds i t h r
   cases fds with
   | nil=>rfl
   | cons f fs=>simp [Sc.rv0B] at h
 | prm vc init rr p d rest ih =>
   intro fds i t h r
   cases fds with
   | nil=>simp [Sc.rv0B] at h
   | cons f fs =>
     simp only [Sc.rv0B,Bool.and_eq_true,decide_eq_true_eq,beq_iff_eq] at h
     obtain ⟨⟨⟨⟨htag,hv⟩,hfld⟩,-⟩,hrest⟩:=h
     rw [vH htag]
     simp only [Sc.dec,Sc.vals,hv]
     rw [←List.append_assoc]
     exact kBZ (decF:=fun s=>if f.hasV ver=true then some (jM.prim p x s) else some (d.gv,s)) (fun r=>kNS hfld r) (ih fs (i+1) t hrest) r
 | _=>intro fds i t h;simp [Sc.rv0B] at h
theorem Sc.rv0_len {ver:Int} {x:Bool} :∀(sc:Sc) (fds:List FD) (i:Nat) (t:TR),sc.rv0B ver fds=true→(sc.vals ver x fds i t).length=sc.len:=by
 intro sc
 induction sc with
 | nil=>intro fds i t _;rfl
 | prm vc init rr p d rest ih =>
   intro fds i t h
   cases fds with
   | nil=>simp [Sc.rv0B] at h
   | cons f fs =>
     simp only [Sc.rv0B,Bool.and_eq_true] at h
     simp [Sc.vals,Sc.len,ih fs (i+1) t h.2]
 | _=>intro fds i t h;simp [Sc.rv0B] at h
theorem Sc.rv0_sm {ver:Int} {x:Bool} :∀(sc:Sc) (fds:List FD) (i:Nat) (t:TR),sc.rv0B ver fds=true→sc.jJ=true →∀g∈sc.vals ver x fds i t,g.sm:=by
 intro sc
 induction sc with
 | nil=>intro fds i t _ _ g hg;simp [Sc.vals] at hg
 | prm vc init rr p d rest ih =>
   intro fds i t h hs
   cases fds with
   | nil=>simp [Sc.rv0B] at h
   | cons f fs =>
     simp only [Sc.rv0B,Bool.and_eq_true] at h
     simp only [Sc.jJ,Bool.and_eq_true] at hs
     intro g hg
     simp only [Sc.vals,List.mem_cons] at hg
     rcases hg with rfl|hg
     ·split
      ·exact kG9 _ _ _
      ·exact Df.small hs.1
     ·exact ih fs (i+1) t h.2 hs.2 g hg
 | _=>intro fds i t h;simp [Sc.rv0B] at h
theorem Sc.kQD {ver:Int} {x:Bool} {tg:List FD} {ls:List GV} {t:TR} (hn:t.nok) :∀(sc:Sc) (fds:List FD) (i:Nat),sc.rv0B ver fds=true→kE3 ver x tg (i+fds.length) t (GV.vD ls)→kE3 ver x (fds++tg) i t (GV.vD (sc.vals ver x fds i t++ls))∧GV.vC (sc.vals ver x fds i t++ls)=GV.vC ls:=by
 intro sc
 induction sc with
 | nil =>
   intro fds i h hb
   cases fds with
   | nil=>exact ⟨by simpa [Sc.vals] using hb,rfl⟩
   | cons f fs=>simp [Sc.rv0B] at h
 | prm vc init rr p d rest ih =>
   intro fds i h hb
   cases fds with
   | nil=>simp [Sc.rv0B] at h
   | cons f fs =>
     simp only [Sc.rv0B,Bool.and_eq_true,decide_eq_true_eq] at h
     obtain ⟨⟨⟨⟨htag,-⟩,q1⟩,q2⟩,hrest⟩:=h
     obtain ⟨k1,k2⟩:=ih fs (i+1) hrest (by rw [List.length_cons] at hb;rwa [show i+1+fs.length=i+(fs.length+1) by omega])
     have hnt :∀m,(if f.hasV ver=true then valG p (f.jR ver (t.at i)) (t.at i) else d.gv)≠.tag m:=fun m=>by split<;>first|exact kKG _ _ _ m|exact df_nt d m
     have hw:f.hasW ver x (t.at i)=f.hasV ver:=by rw [FD.hasW,if_pos htag]
     refine ⟨?_,by simp only [Sc.vals,List.cons_append];rw [xU hnt];exact k2⟩
     simp only [Sc.vals,List.cons_append]
     rw [GV.wP hnt]
     refine ⟨_,_,rfl,fun hh=>?_,fun hh=>?_,k1⟩
     ·rw [hw] at hh
      rw [hh] at q1 q2
      rw [if_pos hh]
      exact kDW (by simpa using q1) (by simpa using q2) (by have:=hn.at i;cases hy:t.at i;rw [hy] at this;exact this.1)
     ·rw [hw] at hh
      rw [hh] at q2
      rw [if_neg (by simp [hh])]
      exact FD.kHB f _ (by simpa using q2)
 | _=>intro fds i h;simp [Sc.rv0B] at h
theorem unkP_ge {fs:List FD} {u:List (Nat×List UInt8)} :∀p∈kU fs u,qN fs≤p.1:=by
 have gen :∀(v acc:List (Nat×List UInt8)),(∀p∈acc,qN fs≤p.1) →∀p∈v.foldl (zS (qN fs)) acc,qN fs≤p.1:=by
  intro v
  induction v with
  | nil=>intro acc ha;exact ha
  | cons q v ih =>
    intro acc ha
    simp only [List.foldl_cons]
    refine ih _ fun p hp=>?_
    unfold zS at hp
    split at hp
    ·exact ha p hp
    ·rcases kG0 hp with rfl|hp
     ·show qN fs≤q.1;omega
     ·exact ha p hp
 exact gen _ [] (by simp)
theorem kHC {dec:RS→Option (List GV×RS)} {o:Option (List GV)} :∀(u m:List (Nat×List UInt8)) (r:List UInt8),Ris u→(∀p∈u,0<p.1)→(∀p∈m,∀q∈u,p.1<q.1)→KRun dec u.length o m (at_ (y7 u++r)) o (m++zT u) (at_ r)
 | [],m,r,_,_,_=>by simpa [y7,zT] using KRun.done
 | (k,b)::u,m,r,h,h0,hm=>by
   have hk:k<4294967296:=h.2 (k,b) (by simp)
   have hr:Ris u:=⟨(List.pairwise_cons.1 h.1).2,fun p hp=>h.2 p (by simp [hp])⟩
   have hw:=jC b
   have e:y7 ((k,b)::u)++r=uvE k++(uvE (kN b).length++(kN b++(y7 u++r))):=by simp [y7]
   rw [e]
   have ih:=kHC (dec:=dec) (o:=o) u (yI m k (kN b)) r hr (fun p hp=>h0 p (by simp [hp])) (fun p hp q hq=>by
    rw [uK fun p hp=>hm p hp (k,b) (by simp)] at hp
    rcases List.mem_append.1 hp with hp|hp
    ·exact hm p hp q (by simp [hq])
    ·simp only [List.mem_singleton] at hp;subst hp
     exact (List.pairwise_cons.1 h.1).1 q hq)
   rw [uK fun p hp=>hm p hp (k,b) (by simp)] at ih
   have e2:m++zT ((k,b)::u)=m++[(k,kN b)]++zT u:=by simp [zT]
   rw [e2]
   refine KRun.unk (y5 hk _) (h0 (k,b) (by simp)) (y5 (by omega) _) (yX _ _) ?_ ?_ (by rw [uK fun p hp=>hm p hp (k,b) (by simp)];exact ih)
   ·have:=kBW (kN b).length
    simp only [List.length_append];omega
   ·simp only [List.length_append];omega
def ktOk (T:zU) (pf:List FD) (f:FD) (flex:Int) (most:Nat):Bool :=
 FD.zN pf&&decide (f.tag=0)&&decide (f.kind=10)&&decide (f.null<0)&&decide (f.sub.length<1000)&&FD.zN f.sub&&f.usK&&f.usB (GV.rcd T.body.dgv).told&&Nat.ble (FD.maxL true f.sub+tagM true) 4294967295&&decide (T.flex=flex)&&decide (flex≥0) &&
  (List.range (most+1)).all fun v=>neB (v:Nat) (decide ((v:Int)≥flex)) pf&&T.sc.rv0B (v:Nat) pf&&(!decide ((v:Int)≥flex)||(T.body.rvB (v:Nat) true f.sub&&T.body.toB (v:Nat) f.sub))
def ktO (T:zU) (pf:List FD) (f:FD) (flex ver:Int) (t:TR):Option (List GV) :=
 if decide (ver≥flex)&&!f.isUs (t.at pf.length) then some (T.body.vals ver true f.sub 0 (t.at pf.length)) else none
def ktM (pf:List FD) (f:FD) (flex ver:Int) (t:TR):List (Nat×List UInt8):=if decide (ver≥flex) then zT (kU (pf++[f]) t.u) else []
def ktG (T:zU) (pf:List FD) (f:FD) (flex ver:Int) (t:TR):List GV :=
 T.sc.vals ver (decide (ver≥flex)) pf 0 t++[.rcd ((ktO T pf f flex ver t).getD T.body.dgv),.tag (ktM pf f flex ver t)]
theorem kOQ {u:List (Nat×List UInt8)} (h:Ris u):(zT u).Pairwise (fun a b=>a.1<b.1):=by
 unfold zT;rw [List.pairwise_map];exact h.1
section
variable {T:zU} {pf:List FD} {f:FD} {flex:Int} {most:Nat}
theorem ktOk.parts (h:ktOk T pf f flex most=true) {ver:Int} (h0:0≤ver) (h1:ver≤most):FD.zN pf=true∧f.tag=0∧f.kind=10∧f.null<0∧f.sub.length<1000∧FD.zN f.sub=true∧f.usK=true∧f.usB (GV.rcd T.body.dgv).told=true∧FD.maxL true f.sub+tagM true≤4294967295∧T.flex=flex∧flex≥0 ∧
  neB ver (decide (ver≥flex)) pf=true∧T.sc.rv0B ver pf=true∧(ver≥flex→T.body.rvB ver true f.sub=true∧T.body.toB ver f.sub=true):=by
 simp only [ktOk,Bool.and_eq_true,decide_eq_true_eq] at h
 obtain ⟨⟨⟨⟨⟨⟨⟨⟨⟨⟨⟨a1,a2⟩,a3⟩,a4⟩,a5⟩,a6⟩,a7⟩,a8⟩,a9⟩,a10⟩,a11⟩,hv⟩:=h
 rw [List.all_eq_true] at hv
 have hb:=hv ver.toNat (by rw [List.mem_range];omega)
 rw [Int.toNat_of_nonneg h0] at hb
 simp only [Bool.and_eq_true] at hb
 obtain ⟨⟨b1,b2⟩,b3⟩:=hb
 refine ⟨a1,a2,a3,a4,a5,a6,a7,a8,Nat.le_of_ble_eq_true a9,a10,a11,b1,b2,fun hx=>?_⟩
 rw [decide_eq_true hx] at b3
 simpa using b3
theorem kQY {ver:Int} {x:Bool} {f:FD} (hk:f.kind=10) (hn:f.null<0) (hp:FD.zN f.sub=true) (y:TR):f.enc ver x y=zI ver x f.sub 0 y++kCM x y.u:=by
 rw [FD.kBY]
 unfold xY
 rw [if_neg (by omega),if_neg (by omega)]
 unfold valP
 rw [if_neg (by omega),if_neg (by omega),if_neg (by omega),if_neg (by omega),if_pos hk]
 exact kDT hp
theorem kHD (hp:FD.zN pf=true) (h0:f.tag=0):qN (pf++[f])=1:=by
 have:=kDK pf hp
 unfold qN at this ⊢
 rw [List.foldl_append,this]
 simp only [List.foldl_cons,List.foldl_nil]
 rw [if_pos (by omega),h0]
 rfl
theorem kOR {ver:Int} {x:Bool} {t:TR} (hp:FD.zN pf=true) (h0:f.tag=0):kC6 ver x (pf++[f]) t=zI ver x pf 0 t ++
  if x then uvE ((if f.isUs (t.at pf.length)=false then [((0:Nat),f.enc ver x (t.at pf.length))] else []).length+(kU (pf++[f]) t.u).length)++(xO (if f.isUs (t.at pf.length)=false then [((0:Nat),f.enc ver x (t.at pf.length))] else [])++y7 (kU (pf++[f]) t.u)) else []:=by
 have e1:zI ver x (pf++[f]) 0 t=zI ver x pf 0 t:=by
  rw [vT,kF2 ver x t [f] _ (fun g hg=>by simp only [List.mem_singleton] at hg;subst hg;omega),List.append_nil]
 have e2:yJ ver x (pf++[f]) t (qN (pf++[f]))=if f.isUs (t.at pf.length)=false then [((0:Nat),f.enc ver x (t.at pf.length))] else []:=by
  rw [kHD hp h0]
  unfold yJ
  simp only [List.range_succ,List.range_zero,List.nil_append,List.flatMap_cons,List.flatMap_nil,List.append_nil]
  rw [kMD ver x 0 t hp [f]]
  simp only [jK,List.append_nil]
  simp [h0]
 unfold kC6
 rw [e1,e2]
theorem kQE (h:ktOk T pf f flex most=true) {ver:Int} (h0:0≤ver) (h1:ver≤most) {t:TR} (hk:t.kok) :
  0<(kC6 ver (MD.qZ ⟨pf++[f],flex⟩ ver) (pf++[f]) t).length∧T.Reads jM ver (at_ (kC6 ver (MD.qZ ⟨pf++[f],flex⟩ ver) (pf++[f]) t)) (T.sc.vals ver (decide (ver≥flex)) pf 0 t) (ktO T pf f flex ver t) (ktM pf f flex ver t) (at_ []):=by
 obtain ⟨a1,a2,a3,a4,a5,a6,a7,a8,a9,a10,a11,b1,b2,b3⟩:=ktOk.parts h h0 h1
 have hx2:MD.qZ ⟨pf++[f],flex⟩ ver=decide (ver≥flex):=by simp [MD.qZ,a11]
 have hxT:T.x ver=decide (ver≥flex):=by unfold zU.x;rw [a10]
 rw [hx2,kOR a1 a2]
 have hku:=TR.kJ7 hk
 have hris:=kKM (fs:=pf++[f]) hku
 have hul:=kDX (pf++[f]) t.u
 have hge :∀p∈kU (pf++[f]) t.u,0<p.1:=fun p hp=>by
  have:=unkP_ge p hp
  rw [kHD a1 a2] at this
  omega
 by_cases hx:ver≥flex
 ·rw [decide_eq_true hx,if_pos rfl]
  refine ⟨by simp only [List.length_append];have:=kBW ((if f.isUs (t.at pf.length)=false then [((0:Nat),f.enc ver true (t.at pf.length))] else []).length+(kU (pf++[f]) t.u).length);omega,?_⟩
  refine ⟨_,by rw [hxT,decide_eq_true hx];exact T.sc.rv0 pf 0 t b2 _,?_⟩
  rw [hxT,decide_eq_true hx,if_pos rfl]
  obtain ⟨c1,c2⟩:=b3 hx
  have hO:ktO T pf f flex ver t=if f.isUs (t.at pf.length)=false then some (T.body.vals ver true f.sub 0 (t.at pf.length)) else none:=by
   unfold ktO;rw [decide_eq_true hx,Bool.true_and]
   cases f.isUs (t.at pf.length)<;>rfl
  have hM:ktM pf f flex ver t=zT (kU (pf++[f]) t.u):=by unfold ktM;rw [decide_eq_true hx];rfl
  rw [hO,hM]
  cases hus:f.isUs (t.at pf.length) with
  | true =>
    simp only [Bool.true_eq_false,if_false,List.length_nil,Nat.zero_add]
    rw [show xO []=[] from rfl,List.nil_append,y5 (by omega)]
    have:=kHC (dec:=T.body.dec jM ver true) (o:=none) (kU (pf++[f]) t.u) [] [] hris hge (by simp)
    simpa using this
  | false =>
    simp only [if_true,List.length_cons,List.length_nil,Nat.zero_add]
    have he:=kQY (ver:=ver) (x:=true) a3 a4 a6 (t.at pf.length)
    have hel:(f.enc ver true (t.at pf.length)).length≤4294967295:=by
     rw [he,List.length_append]
     have q1:=FD.kBD ver true f.sub 0 (t.at pf.length) a6 (hk.at pf.length)
     have q2:=kG4 (x:=true) (TR.kJ7 (hk.at pf.length))
     omega
    have e:xO [((0:Nat),f.enc ver true (t.at pf.length))]++y7 (kU (pf++[f]) t.u)=uvE 0++(uvE (f.enc ver true (t.at pf.length)).length++(f.enc ver true (t.at pf.length)++y7 (kU (pf++[f]) t.u))):=by simp [xO]
    rw [e,y5 (by omega),Nat.add_comm 1]
    simp only
    have hrv:=T.body.rv f.sub 0 (t.at pf.length) c1 (hk.at pf.length) []
    rw [List.append_nil,←he] at hrv
    have hun:=kHC (dec:=T.body.dec jM ver true) (o:=some (T.body.vals ver true f.sub 0 (t.at pf.length))) (kU (pf++[f]) t.u) [] [] hris hge (by simp)
    rw [List.append_nil,List.nil_append] at hun
    exact KRun.known (y5 (by omega) _) (y5 (by omega) _) (yX _ _) hrv rfl hun
 ·rw [decide_eq_false hx]
  simp only [Bool.false_eq_true,if_false,List.append_nil]
  rw [decide_eq_false hx] at b1
  refine ⟨?_,?_⟩
  ·have:=kK3 (i:=0) (t:=t) b1
   simpa [kCM] using this
  ·have hd:=T.sc.rv0 (x:=false) pf 0 t b2 []
   rw [List.append_nil] at hd
   refine ⟨at_ [],by rw [hxT,decide_eq_false hx];exact hd,?_⟩
   rw [hxT,decide_eq_false hx]
   simp [ktO,ktM,hx]
theorem kt_told (h:ktOk T pf f flex most=true) {ver:Int} (h0:0≤ver) (h1:ver≤most) {t:TR} (hk:t.kok) (hn:t.nok) :
  kQX ver (MD.qZ ⟨pf++[f],flex⟩ ver) (pf++[f]) t (GV.rcd (ktG T pf f flex ver t)).told:=by
 obtain ⟨a1,a2,a3,a4,a5,a6,a7,a8,a9,a10,a11,b1,b2,b3⟩:=ktOk.parts h h0 h1
 have hx2:MD.qZ ⟨pf++[f],flex⟩ ver=decide (ver≥flex):=by simp [MD.qZ,a11]
 rw [hx2]
 have hris:=kKM (fs:=pf++[f]) (TR.kJ7 hk)
 have hb:kE3 ver (decide (ver≥flex)) [f] (0+pf.length) t (GV.vD [.rcd ((ktO T pf f flex ver t).getD T.body.dgv),.tag (ktM pf f flex ver t)]):=by
  rw [Nat.zero_add]
  refine ⟨_,[],rfl,fun hw=>?_,fun hw=>?_,rfl⟩
  ·rw [FD.hasW,if_neg (by omega),Bool.and_eq_true] at hw
   have hx:ver≥flex:=by simpa using hw.1
   have hO:ktO T pf f flex ver t=some (T.body.vals ver true f.sub 0 (t.at pf.length)):=by
    unfold ktO;rw [hw.1,hw.2];rfl
   rw [hO,Option.getD_some,decide_eq_true hx]
   obtain ⟨c1,c2⟩:=b3 hx
   obtain ⟨d1,d2⟩:=kOG T.body f.sub 0 (t.at pf.length) c1 c2 (hk.at pf.length) (hn.at pf.length)
   have hnv:f.jR ver (t.at pf.length)=false:=by
    cases f with
    | mk kind frm to null tag dfl of sub =>
      simp only [FD.jR,FD.null] at a4 ⊢
      simp;omega
   obtain ⟨kind,frm,to,null,tag,dfl,of,sub⟩:=f
   simp only [FD.kind,FD.null,FD.sub,FD.tag] at a2 a3 a4 a6 c1 c2 d1 d2
   subst a3
   have hmay:mayV null ver=false:=by simp [mayV];omega
   simp only [FD.kAZ]
   rw [hnv,hmay]
   refine ⟨⟨fun _=>rfl,fun _=>⟨by simp,by simp,fun _=>⟨d1,?_⟩,by simp⟩⟩,by simp⟩
   show GV.vC (Sc.vals ver true T.body sub 0 (t.at pf.length))=_
   rw [d2,yY a6]
  ·have hO:ktO T pf f flex ver t=none:=by
    rw [FD.hasW,if_neg (by omega)] at hw
    unfold ktO;rw [hw];rfl
   rw [hO,Option.getD_none]
   exact FD.kHB f _ a8
 obtain ⟨k1,k2⟩:=Sc.kQD (x:=decide (ver≥flex)) hn T.sc pf 0 b2 hb
 refine ⟨k1,?_⟩
 show GV.vC (ktG T pf f flex ver t)=_
 unfold ktG
 rw [k2]
 show uF (ktM pf f flex ver t)=_
 unfold ktM
 cases decide (ver≥flex) with
 | false=>rfl
 | true=>exact kET (kOQ hris)
end
end Go.Msk
