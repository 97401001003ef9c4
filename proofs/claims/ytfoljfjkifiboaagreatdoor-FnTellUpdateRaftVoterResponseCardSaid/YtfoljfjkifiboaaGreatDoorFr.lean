/- A small language of resolved operations, and what the generic and the generated functions do in it (part 18). -/
import Derived.Test.YtfoljfjkifiboaaGreatDoorFq
namespace Go.Msk
open Go.RowKit
set_option maxRecDepth 100000
def kKF (zz mx sm ver wr door flx got tol:FuncId):IC×List RV×Nat :=
 (.seq (.blk [⟨some 3,.box (.tmp 1),none⟩,⟨some 4,.mv (.const (.bool false)),none⟩])
 (.seq (.seq (.blk [⟨some 10,.ldn (.tmp 3) 5,none⟩,⟨some 11,.call zz [.tmp 10],none⟩,⟨some 12,.lnot (.tmp 11),none⟩])
  (.cond (.tmp 12) (.seq (.blk [⟨some 4,.mv (.const (.bool true)),none⟩]) .ret) .skip))
 (.seq (.blk [⟨some 13,.call mx [],none⟩,⟨some 5,.mv (.tmp 13),none⟩])
 (.seq (.seq (.blk [⟨some 14,.mv (.tmp 5),none⟩,⟨some 15,.bin .lss (.tmp 14) (.const (.int .i64 0)),none⟩])
  (.cond (.tmp 15) (.seq (.blk [⟨some 4,.mv (.const (.bool false)),none⟩]) .ret) .skip))
 (.seq (.blk [⟨some 16,.call sm [],none⟩,⟨some 17,.mv (.tmp 0),none⟩,⟨some 18,.mv (.tmp 5),none⟩,⟨some 19,.call ver [.tmp 17,.tmp 18],none⟩,⟨some 6,.alloc [.slice none 0 0,.int .i64 0],none⟩,⟨none,.st (.tmp 6) 2 (.tmp 16),none⟩,⟨some 7,.mv (.tmp 19),none⟩])
 (.seq (.blk [⟨some 21,.mv (.tmp 7),none⟩,⟨some 22,.ldn (.tmp 6) 2,none⟩,⟨some 23,.mv (.tmp 7),none⟩,⟨some 24,.ldn (.tmp 3) 5,none⟩,⟨some 25,.call wr [.tmp 22,.tmp 23,.tmp 24],none⟩,⟨some 26,.call door [.tmp 21,.tmp 25],none⟩,
   ⟨some 20,.mv (.tmp 26),none⟩,⟨some 27,.ext (.tmp 20) 0,none⟩,⟨some 28,.ext (.tmp 20) 1,none⟩,⟨some 8,.alloc tzero,none⟩,⟨none,.st (.tmp 8) 5 (.tmp 27),none⟩,⟨some 9,.mv (.tmp 28),none⟩])
 (.seq (.drw [⟨⟨some 29,.mv (.tmp 9),none⟩,false,[]⟩,⟨⟨some 30,.mv (.tmp 29),none⟩,false,[]⟩,⟨⟨some 31,.fad (.tmp 6) 0,some (30,true)⟩,false,[]⟩,⟨⟨some 32,.ld (.tmp 31),some (30,true)⟩,false,[]⟩,⟨⟨some 33,.mv (.tmp 7),some (30,true)⟩,false,[]⟩,
   ⟨⟨some 34,.ldn (.tmp 6) 2,some (30,true)⟩,false,[]⟩,⟨⟨some 35,.mv (.tmp 7),some (30,true)⟩,false,[]⟩,⟨⟨some 36,.call flx [.tmp 34,.tmp 35],some (30,true)⟩,true,[]⟩,⟨⟨some 37,.ldn (.tmp 3) 5,some (30,true)⟩,false,[]⟩,⟨⟨some 38,.ldn (.tmp 8) 5,some (30,true)⟩,false,[]⟩,
   ⟨⟨some 39,.call got [.tmp 38],some (30,true)⟩,true,[7]⟩,⟨⟨some 40,.call tol [.tmp 32,.tmp 33,.tmp 36,.tmp 37,.tmp 39],some (30,true)⟩,true,[7,10]⟩,⟨⟨some 41,.pick (.tmp 30) (.tmp 40) (.const (.bool false)),none⟩,false,[7,10,11]⟩,⟨⟨some 4,.mv (.tmp 41),none⟩,false,[7,10,11]⟩] [])
 .ret)))))),[.tmp 4],42)
section
variable {P:Program} {F:Nat→Nat}
attribute [local simp] gOk updo upd ev RK.val? kL kM Addr.kK qE Value.cells undef
def kOC (P:Program) (door:FuncId) (wp:Int→TR→List UInt8) (most:Int) (g:Nat) (Te:TypeId) (ve:Value) (R:Int→TR→TR):Prop :=
 ∀(w:World) (ver:Int) (t:TR) (sv:Value),t.kok→(wp ver t).length+1000≤lim→0≤ver→ver≤most→SlC anyB w sv (wp ver t).length (u8s (wp ver t))→GErr g w Te ve →
   Calls P door [.int .i64 ver,sv].toArray w (DoorR w (R ver t))
theorem kOD (hm:P.follows .mixedOrders=true) {f zz mx sm ver wr door flx got tol g:FuncId} (h:kH P f=some (kKF zz mx sm ver wr door flx got tol)) {m:MD} {wp:Int→TR→List UInt8} {most:Int} (hmost:0≤most∧most<32768)
  (hzz :∀(w:World) (t:TR) (ts:List Value),RepT anyB w t ts→Calls P zz [.agg ts.toArray].toArray w (kPX w))
  (hmx :∀w,Calls P mx #[] w fun e w'=>e=.returned (.int .i64 most)∧Mod [] w w')
  (hsm :∀w,Calls P sm #[] w fun e w' =>∃cs,e=.returned (.agg cs.toArray)∧RepM anyB w' m cs∧Mod [] w w')
  (hver :∀w n,0≤n∧n<256→Calls P ver [.int .u8 n,.int .i64 most].toArray w fun e w'=>e=.returned (.int .i64 (n%(most+1)))∧w'=w)
  (hwr :∀(v:Int) (w:World) (ms:List Value) (t:TR) (ts:List Value),RepM anyB w m ms→RepT anyB w t ts→t.kok→(wp v t).length≤lim→Calls P wr [.agg ms.toArray,.int .i64 v,.agg ts.toArray].toArray w (uY w (wp v t)))
  {Te:TypeId} {ve:Value} {R:Int→TR→TR} (hdoor:kOC P door wp most g Te ve R)
  {w:World} {n:Int} (hn:0≤n∧n<256) {t:TR} {ts:List Value} (hgot :∀v,0≤v→v≤most→kJT P got (R v t))
  (hflx :∀(v:Int) (w:World) (ms:List Value),RepM anyB w m ms→Calls P flx [.agg ms.toArray,.int .i64 v].toArray w fun e w'=>e=.returned (.bool (m.qZ v))∧Mod [] w w')
  (htol :∀(v:Int) (w:World) (sv:Value) (css:List (List Value)) (xs us:List Value),0≤v→v≤most→SlC anyB w sv m.fs.length css.flatten→jU anyB w m.fs css→RepT anyB w t xs→RepT anyB w (R v t) us→Calls P tol [sv,.int .i64 v,.bool (m.qZ v),.agg xs.toArray,.agg us.toArray].toArray w (kG6 w))
  (ht:RepT anyB w t ts) (hk:t.kok) (hlen :∀v,(wp v t).length+1000≤lim) (hg:GErr g w Te ve) :
  Calls P f [.int .u8 n,.agg ts.toArray].toArray w fun e w'=>e=.returned (.bool true)∧Mod [] w w':=by
 unfold kKF at h
 refine kT h hm (by simp) ?_
 clear h
 have h5:=ht.five
 rw [wpC_seq,kD]
 refine wB (v:=.agg ts.toArray) (by simp) fun w1 hb1 hm1=>?_
 have hb1:Blk w1 w.heap.size ts:=by simpa using hb1
 refine go1 (v:=.bool false) rfl (by simp) (kP ?_)
 simp only [kF]
 have hload1:=kJ hb1.cells h5
 rw [wpC_seq,wpC_seq,kD]
 refine go1 (v:=.agg ts.toArray) rfl (by simp [hload1]) ?_
 refine qF rfl (vs:=[.agg ts.toArray]) (by simp) (hzz w1 t ts (ht.keep hm1)) ?_
 rintro e w2 ⟨zb,rfl,hm2⟩
 have hm02:=hm1.trans hm2
 refine ⟨_,rfl,?_⟩
 refine go1 (v:=.bool !zb) rfl (by simp) (kP ?_)
 simp only [kF]
 cases zb with
 | false =>
   rw [kI (by simp),wpC_seq,kD]
   refine go1 (v:=.bool true) rfl (by simp) (kP ?_)
   simp only [kF]
   repeat first|refine zP ?_|refine j3 ?_
   exact ret1 (v:=.bool true) (by simp) ⟨rfl,hm02⟩
 | true =>
 rw [kG (by simp),wpC_skip]
 simp only [kF]
 rw [wpC_seq,kD]
 refine qF rfl (vs:=[]) rfl (hmx w2) ?_
 rintro e w3 ⟨rfl,hm3⟩
 have hm03:=hm02.trans hm3
 refine ⟨_,rfl,go1 (v:=.int .i64 most) rfl (by simp) (kP ?_)⟩
 simp only [kF]
 rw [wpC_seq,wpC_seq,kD]
 refine go1 (v:=.int .i64 most) rfl (by simp) ?_
 refine go1 (v:=.bool false) rfl (by simp;omega) (kP ?_)
 simp only [kF]
 rw [kG (by simp),wpC_skip]
 simp only [kF]
 rw [wpC_seq,kD]
 refine qF rfl (vs:=[]) rfl (hsm w3) ?_
 rintro e w4 ⟨cs,rfl,hrm,hm4⟩
 have hm04:=hm03.trans hm4
 refine ⟨_,rfl,?_⟩
 obtain ⟨cv,cfl,rfl,hone,fcss,hfs,hfl⟩ :∃a b,cs=[a,.int .i64 b]∧a.oneCell'=true ∧∃css,SlC anyB w4 a m.fs.length css.flatten∧jU anyB w4 m.fs css:=by cases hrm with|mk q1 q2=>exact ⟨_,_,rfl,q1.one,_,q1,q2⟩
 refine go1 (v:=.int .u8 n) rfl (by simp) ?_
 refine go1 (v:=.int .i64 most) rfl (by simp) ?_
 refine qF rfl (vs:=[.int .u8 n,.int .i64 most]) (by simp) (hver w4 n hn) ?_
 rintro e w5 ⟨rfl,e5⟩
 subst e5
 refine ⟨_,rfl,?_⟩
 refine jI fun w6 hb6 hm6=>?_
 refine goSt (b:=w5.heap.size) (v:=.agg #[cv,.int .i64 cfl]) (by simp) (by simp) hb6 (by simp) (by simp) (by
  intro y hy
  simp only [Value.cells,List.mem_cons,List.not_mem_nil,or_false] at hy
  rcases hy with rfl|rfl
  ·exact hone
  ·rfl) fun w7 hb7 hm7=>?_
 have hb7:Blk w7 w5.heap.size [cv,.int .i64 cfl]:=by simpa using hb7
 have hm57:Mod [] w5 w7:=Mod.drop (b:=w5.heap.size) (S:=[]) (hm6.nil.trans hm7) (Nat.le_refl _)
 have hm07:=hm04.trans hm57
 have hv0:0≤n%(most+1):=Int.emod_nonneg _ (by omega)
 have hv1:n%(most+1)≤most:=by have:=Int.emod_lt_of_pos n (show 0<most+1 by omega);omega
 generalize n%(most+1)=vr at hv0 hv1 ⊢
 refine go1 (v:=.int .i64 vr) rfl (by simp) (kP ?_)
 simp only [kF]
 have hld7:=kJ hb7.cells (show [cv,Value.int .i64 cfl].length=2 from rfl)
 have hb17:Blk w7 w.heap.size ts:=hb1.mod (((hm2.trans hm3).trans hm4).trans hm57) (by simp)
 have hload7:=kJ hb17.cells h5
 rw [wpC_seq,kD]
 refine go1 (v:=.int .i64 vr) rfl (by simp) ?_
 refine go1 (v:=.agg #[cv,.int .i64 cfl]) rfl (by simp [hld7]) ?_
 refine go1 (v:=.int .i64 vr) rfl (by simp) ?_
 refine go1 (v:=.agg ts.toArray) rfl (by simp [hload7]) ?_
 refine qF rfl (vs:=[.agg [cv,.int .i64 cfl].toArray,.int .i64 vr,.agg ts.toArray]) (by simp) (hwr vr w7 _ t ts (hrm.keep hm57) (ht.keep hm07) hk (by have:=hlen vr;omega)) ?_
 rintro e w8 ⟨sv,rfl,hsd,hm8⟩
 have hm08:=hm07.trans hm8
 refine ⟨_,rfl,?_⟩
 have hsl:SlC anyB w8 sv (wp vr t).length (u8s (wp vr t)):=hsd.slc.any
 refine qF rfl (vs:=[.int .i64 vr,sv]) (by simp) (hdoor w8 vr t sv hk (hlen vr) hv0 hv1 hsl (zH hg hm08 (by simp))) ?_
 rintro e w9 ⟨xs,rfl,hx,hm9⟩
 have hm09:=hm08.trans hm9
 refine ⟨_,rfl,?_⟩
 refine go1 (v:=.tuple #[.agg xs.toArray,.bool true]) rfl (by simp) ?_
 refine go1 (v:=.agg xs.toArray) rfl (by simp) ?_
 refine go1 (v:=.bool true) rfl (by simp) ?_
 refine jI fun w10 hb10 hm10=>?_
 refine goSt (b:=w9.heap.size) (v:=.agg xs.toArray) (by simp) (by simp) hb10 (by simpa using hx.five) rfl (by simpa using hx.oneCell) fun w11 hb11 hm11=>?_
 have hb11:Blk w11 w9.heap.size xs:=by simpa using hb11
 have hm911:Mod [] w9 w11:=Mod.drop (b:=w9.heap.size) (S:=[]) (hm10.nil.trans hm11) (Nat.le_refl _)
 refine go1 (v:=.bool true) rfl (by simp) (kP ?_)
 simp only [kF]
 rw [wpC_seq]
 show wpD P _ [] _ w11.drew _
 have hmd:Mod [] w9 w11.drew:=hm911.trans (Mod.drew _ _)
 have hm0d:=hm09.trans hmd
 have hb7d:Blk w11.drew w5.heap.size [cv,.int .i64 cfl]:=hb7.mod ((hm8.trans hm9).trans hmd) (by simp)
 have c7:=fun k=>hb7d.cell k
 have hb11d:=hb11.mod (Mod.drew [] w11) (by simp)
 have hldx:=kJ hb11d.cells hx.five
 have hsz:w11.drew.heap.size=w11.heap.size:=rfl
 have hxd:RepT (fun b=>b<w11.drew.heap.size) w11.drew (R vr t) xs:=(hx.mod (ok':=fun _=>True) hmd (by simp) fun _ _ _=>trivial).mod (Mod.refl [] _) (by simp) fun b hb _=>hb
 have hm5d:Mod [] w5 w11.drew:=((hm57.trans hm8).trans hm9).trans hmd
 have hld7d:=kJ hb7d.cells (show [cv,Value.int .i64 cfl].length=2 from rfl)
 have hld1d:=kJ (hb17.mod ((hm8.trans hm9).trans hmd) (by simp)).cells h5
 have hrmd:=hrm.keep hm5d
 refine zM (fun i v w'=>match i with|7=>v=.bool (m.qZ vr)|10 =>∃cs,v=.agg cs.toArray∧RepT anyB w' (R vr t) cs|11=>v=.bool true|_=>True) (by
  intro i v w w' h hm
  split at h
  ·exact h
  ·obtain ⟨cs,e,h⟩:=h;exact ⟨cs,e,h.keep hm⟩
  ·exact h
  ·trivial) ?_
 refine bo1 (v:=.bool true) rfl (by simp) ?_
 refine bo1 (v:=.bool true) rfl (by simp) ?_
 refine bo1 (v:=.pointer (some ⟨w5.heap.size,0,none⟩)) (by simp) (by simp) ?_
 refine bo1 (v:=cv) (by simp) (by simp [c7]) ?_
 refine bo1 (v:=.int .i64 vr) (by simp) (by simp) ?_
 refine bo1 (v:=.agg #[cv,.int .i64 cfl]) (by simp) (by simp [hld7d]) ?_
 refine bo1 (v:=.int .i64 vr) (by simp) (by simp) ?_
 refine jB (vs:=[.agg [cv,.int .i64 cfl].toArray,.int .i64 vr]) (by simp) (by simp) (fun w' hm' _=>(hflx vr w' _ (hrmd.keep hm')).mono ?_) ?_
 ·rintro e w'' ⟨rfl,hmm⟩
  exact ⟨_,rfl,hmm,rfl⟩
 rintro v7 ⟨wv7,ev7⟩
 have ev7:v7=.bool (m.qZ vr):=ev7
 subst ev7
 refine bo1 (v:=.agg ts.toArray) (by simp) (by simp [hld1d]) ?_
 refine bo1 (v:=.agg xs.toArray) (by simp) (by simp [hldx]) ?_
 refine jB (vs:=[.agg xs.toArray]) (by simp) (by simp) (fun w' hm' _=>(hgot vr hv0 hv1 w11.drew.heap.size w' xs hm'.size (hxd.mod hm' (by simp) fun _ _ h=>h)).mono ?_) ?_
 ·rintro e w'' ⟨us,rfl,hru,hmm⟩
  exact ⟨_,rfl,hmm,us,rfl,hru.any⟩
 rintro v ⟨wv,us,rfl,-⟩
 refine jB (vs:=[cv,.int .i64 vr,.bool (m.qZ vr),.agg ts.toArray,.agg us.toArray]) (by simp) (by simp) (fun w' hm' hkn=>?_) ?_
 ·have k5:=qY (j:=10) (t:=39) hkn (by simp) rfl rfl (by simp) rfl
  obtain ⟨us',eu,hru⟩ :∃cs,Value.agg us.toArray=.agg cs.toArray∧RepT anyB w' (R vr t) cs:=by simpa using k5
  have hm4w:Mod [] w5 w':=hm5d.trans hm'
  rw [show ([cv,.int .i64 vr,.bool (m.qZ vr),.agg ts.toArray,Value.agg us.toArray]:List Value)=[cv,.int .i64 vr,.bool (m.qZ vr),.agg ts.toArray,.agg us'.toArray] by rw [eu]]
  refine (htol vr w' cv fcss ts us' hv0 hv1 (hfs.keep hm4w) (hfl.keep hm4w) (ht.keep (hm0d.trans hm')) hru).mono ?_
  rintro e w'' ⟨rfl,hmm⟩
  exact ⟨_,rfl,hmm,rfl⟩
 rintro v ⟨wv',ev'⟩
 have ev':v=.bool true:=ev'
 subst ev'
 refine bo1 (v:=.bool true) rfl (by simp) ?_
 refine bo1 (v:=.bool true) rfl (by simp) ?_
 intro w' hm' hkn
 refine kP ?_
 simp only [kF]
 exact ret1 (v:=.bool true) (by simp) ⟨rfl,hm0d.trans hm'⟩
end
theorem kCP (s:List UInt8):(vF s).length=16:=by simp [vF];omega
theorem kG8 {p:PK} {kind:Int} {nul null:Bool} {t:TR} (hk:kindOk kind nul p=true):p.ty (valG p null t):=by
 have hw:=jC t.s
 cases p with
 | bool=>exact ⟨_,rfl⟩
 | i64=>exact ⟨_,rfl,kG5 _⟩
 | str=>exact ⟨_,rfl⟩
 | nstr=>exact ⟨_,rfl⟩
 | byt=>exact ⟨_,rfl,fun l e=>by cases e;omega⟩
 | uuid=>exact ⟨_,rfl,kCP _⟩
 | u32=>simp [kindOk] at hk
 | nbyt=>simp [kindOk] at hk
 | _=>exact ⟨_,_,rfl⟩
theorem kG9 (p:PK) (null:Bool) (t:TR):(valG p null t).sm:=by
 have hw:=jC t.s
 have hb:(GV.byt (some (kN t.s))).sm:=⟨by simp only [GV.told,TR.small,TR.xN];simp;omega,fun m e=>by simp at e⟩
 cases p with
 | str=>exact str_sm (by omega)
 | nstr =>
   refine ⟨?_,fun m e=>by simp [valG] at e⟩
   cases null<;>simp [valG,GV.told,TR.small,TR.xN];omega
 | uuid=>exact kK6 (by rw [kCP];omega)
 | byt=>exact hb
 | u32=>exact hb
 | nbyt=>exact hb
 | _=>exact num_sm (by simp)
theorem kOE {T:GV→Prop} {sz esz:Nat} {val:TR→GV} {ys:List TR} (hsz:sz=esz) (hl:ys.length≤32767) (h :∀y∈ys,T (val y)) :∃isnil z l,lstG sz val ys=.lst isnil z l∧(∀g∈l,T g)∧l.length≤2147483647∧(l=[]∨z=esz):=by
 refine ⟨_,_,_,rfl,fun g hg=>?_,by simp;omega,?_⟩
 ·obtain ⟨y,hy,rfl⟩:=List.mem_map.1 hg;exact h y hy
 ·by_cases hz:(ys.length:Int)≤0
  ·left
   have:ys=[]:=List.length_eq_zero_iff.1 (by omega)
   simp [this]
  ·right;rw [if_neg hz,hsz]
theorem kOF {sz:Nat} {val:TR→GV} {ys:List TR} (hl:ys.length≤32767) (h :∀y∈ys,(val y).sm):(lstG sz val ys).sm:=by
 refine kN4 (by simp;omega) fun g hg=>?_
 obtain ⟨y,hy,rfl⟩:=List.mem_map.1 hg;exact h y hy
section
variable {ver:Int} {x:Bool}
theorem kHA :∀(sc:Sc) (fds:List FD) (i:Nat) (t:TR),sc.rvB ver x fds=true→(sc.vals ver x fds i t).length=sc.len:=by
 intro sc
 induction sc with
 | nil=>intro fds i t _;rfl
 | tags f=>intro fds i t _;rfl
 | vst _ _ _ _ rest ih=>intro fds i t h;simp [Sc.rvB] at h
 | _ =>
   rename_i ih
   intro fds i t h
   cases fds with
   | nil=>simp [Sc.rvB] at h
   | cons f fs =>
     simp only [Sc.rvB,Bool.and_eq_true] at h
     simp [Sc.vals,Sc.len,ih fs (i+1) t h.2]
theorem vals_sm :∀(sc:Sc) (fds:List FD) (i:Nat) (t:TR),sc.rvB ver x fds=true→sc.jJ=true→t.kok →∀g∈sc.vals ver x fds i t,g.sm:=by
 intro sc
 have l0:(GV.lst true 0 []).sm:=⟨by simp [GV.told,GV.wI,TR.small,TR.xN],fun m e=>by simp at e⟩
 have cons :∀{g:GV} {l:List GV},g.sm→(∀y∈l,y.sm) →∀y∈g::l,y.sm:=fun h1 h2 y hy=>by
  rcases List.mem_cons.1 hy with rfl|hy
  ·exact h1
  ·exact h2 y hy
 induction sc with
 | nil=>intro fds i t _ _ _ g hg;simp [Sc.vals] at hg
 | tags f =>
   intro fds i t _ _ hk g hg
   simp only [Sc.vals,List.mem_singleton] at hg
   subst hg
   have hku :∀p∈t.u,p.1<4294967296:=by cases t;exact hk.1
   obtain ⟨-,h2⟩:=kIR hku
   refine ⟨by simp [GV.told,TR.small,TR.xN,TR.zero],fun m e=>?_⟩
   simp only [GV.tag.injEq] at e
   subst e
   cases x with
   | false=>simp
   | true =>
     refine ⟨by simp [zT];omega,fun p hp=>?_⟩
     simp only [if_true,zT,List.mem_map] at hp
     obtain ⟨q,-,rfl⟩:=hp
     have:=jC q.2
     show (kN q.2).length≤_
     omega
 | prm vc init rr p d rest ih =>
   intro fds i t h hs hk
   cases fds with
   | nil=>simp [Sc.rvB] at h
   | cons f fs =>
     simp only [Sc.rvB,Bool.and_eq_true] at h
     simp only [Sc.jJ,Bool.and_eq_true] at hs
     refine cons ?_ (ih fs (i+1) t h.2 hs.2 hk)
     split
     ·exact kG9 _ _ _
     ·exact Df.small hs.1
 | enm vc init rr p d rest ih =>
   intro fds i t h hs hk
   cases fds with
   | nil=>simp [Sc.rvB] at h
   | cons f fs =>
     simp only [Sc.rvB,Bool.and_eq_true] at h
     simp only [Sc.jJ,Bool.and_eq_true] at hs
     refine cons ?_ (ih fs (i+1) t h.2 hs.2 hk)
     split
     ·exact kG9 _ _ _
     ·exact Df.small hs.1
 | vst _ _ _ _ rest ih=>intro fds i t h;simp [Sc.rvB] at h
 | uid vc ff rest ih =>
   intro fds i t h hs hk
   cases fds with
   | nil=>simp [Sc.rvB] at h
   | cons f fs =>
     simp only [Sc.rvB,Bool.and_eq_true] at h
     refine cons ?_ (ih fs (i+1) t h.2 hs hk)
     split
     ·exact kK6 (by rw [kCP];omega)
     ·exact kK6 (by simp)
 | lsp vc ln bytes d init rr p rest ih =>
   intro fds i t h hs hk
   cases fds with
   | nil=>simp [Sc.rvB] at h
   | cons f fs =>
     simp only [Sc.rvB,Bool.and_eq_true] at h
     refine cons ?_ (ih fs (i+1) t h.2 hs hk)
     split
     ·exact kOF (kB4 _) fun y _=>kG9 _ _ _
     ·exact l0
 | lss vc ln bytes z dfl body rest ihb ih =>
   intro fds i t h hs hk
   cases fds with
   | nil=>simp [Sc.rvB] at h
   | cons f fs =>
     simp only [Sc.rvB,Bool.and_eq_true] at h
     simp only [Sc.jJ,Bool.and_eq_true,decide_eq_true_eq] at hs
     refine cons ?_ (ih fs (i+1) t h.2 hs.2 hk)
     split
     ·rename_i hh
      have hb:body.rvB ver x f.sub=true:=by
       have:=h.1.2
       rw [hh] at this
       simp only [Bool.not_true,Bool.false_or,Bool.and_eq_true] at this
       exact this.2
      refine kOF (kB4 _) fun y hy=>vI (by rw [kHA _ _ _ _ hb];exact hs.1.1) ?_
      exact ihb f.sub 0 y hb hs.1.2 (TR.kEU (hk.at i) (List.mem_of_mem_take hy))
     ·exact l0
 | sub vc dfl body rest ihb ih =>
   intro fds i t h hs hk
   cases fds with
   | nil=>simp [Sc.rvB] at h
   | cons f fs =>
     simp only [Sc.rvB,Bool.and_eq_true] at h
     simp only [Sc.jJ,Bool.and_eq_true,decide_eq_true_eq] at hs
     refine cons ?_ (ih fs (i+1) t h.2 hs.2 hk)
     split
     ·rename_i hh
      have hb:body.rvB ver x f.sub=true:=by
       have:=h.1.2
       rw [hh] at this
       simp only [Bool.not_true,Bool.false_or,Bool.and_eq_true] at this
       exact this.2
      exact vI (by rw [kHA _ _ _ _ hb];exact hs.1.1) (ihb f.sub 0 (t.at i) hb hs.1.2 (hk.at i))
     ·exact vI (by rw [Sc.kJ9];exact hs.1.1) (Sc.kIU body hs.1.2)
theorem vals_ty :∀(sc:Sc) (tl:Tl) (fds:List FD) (i:Nat) (t:TR),sc.rvB ver x fds=true→fit sc tl=true→t.kok→tl.ty (sc.vals ver x fds i t):=by
 intro sc
 induction sc with
 | nil=>intro tl fds i t _ hf _;cases tl<;>simp only [fit,Bool.false_eq_true] at hf;rfl
 | tags f =>
   intro tl fds i t _ hf hk
   cases tl<;>simp only [fit,Bool.false_eq_true] at hf
   have hku :∀p∈t.u,p.1<4294967296:=by cases t;exact hk.1
   obtain ⟨-,h2⟩:=kIR hku
   refine ⟨_,rfl,?_⟩
   cases x with
   | false=>simp
   | true =>
     refine ⟨by simp [zT];omega,fun p hp=>?_⟩
     simp only [if_true,zT,List.mem_map] at hp
     obtain ⟨q,-,rfl⟩:=hp
     have:=jC q.2
     show (kN q.2).length≤_
     omega
 | prm vc init rr p d rest ih =>
   intro tl fds i t h hf hk
   cases fds with
   | nil=>simp [Sc.rvB] at h
   | cons f fs =>
     simp only [Sc.rvB,Bool.and_eq_true] at h
     have key:fitD p d=true→p.ty (if f.hasV ver=true then valG p (f.jR ver (t.at i)) (t.at i) else d.gv):=fun hd=>by
      split
      ·rename_i hh
       have:=h.1.2
       rw [hh] at this
       exact kG8 (by simpa using this)
      ·exact kC5 hd
     cases tl<;>simp only [fit,Bool.false_eq_true,Bool.and_eq_true] at hf
     ·exact ⟨_,_,rfl,kEY hf.1.1 (key hf.1.2),ih _ fs (i+1) t h.2 hf.2 hk⟩
     ·have e:p=.uuid:=by simpa using hf.1.1
      subst e
      obtain ⟨l,h1,h2⟩:=key hf.1.2
      exact ⟨l,_,by rw [Sc.vals,h1],h2,ih _ fs (i+1) t h.2 hf.2 hk⟩
 | enm vc init rr p d rest ih =>
   intro tl fds i t h hf hk
   cases fds with
   | nil=>simp [Sc.rvB] at h
   | cons f fs =>
     simp only [Sc.rvB,Bool.and_eq_true] at h
     have key:fitD p d=true→p.ty (if f.hasV ver=true then valG p (f.jR ver (t.at i)) (t.at i) else d.gv):=fun hd=>by
      split
      ·rename_i hh
       have:=h.1.2
       rw [hh] at this
       exact kG8 (by simpa using this)
      ·exact kC5 hd
     cases tl<;>simp only [fit,Bool.false_eq_true,Bool.and_eq_true] at hf
     exact ⟨_,_,rfl,kEY hf.1.1 (key hf.1.2),ih _ fs (i+1) t h.2 hf.2 hk⟩
 | vst _ _ _ _ rest ih=>intro tl fds i t h;simp [Sc.rvB] at h
 | uid vc ff rest ih =>
   intro tl fds i t h hf hk
   cases fds with
   | nil=>simp [Sc.rvB] at h
   | cons f fs =>
     simp only [Sc.rvB,Bool.and_eq_true] at h
     cases tl<;>simp only [fit,Bool.false_eq_true] at hf
     refine ⟨if f.hasV ver=true then vF (t.at i).s else List.replicate 16 0,_,by simp only [Sc.vals];split<;>rfl,?_,ih _ fs (i+1) t h.2 hf hk⟩
     split
     ·exact kCP _
     ·simp
 | lsp vc ln bytes d init rr p rest ih =>
   intro tl fds i t h hf hk
   cases fds with
   | nil=>simp [Sc.rvB] at h
   | cons f fs =>
     simp only [Sc.rvB,Bool.and_eq_true] at h
     cases tl<;>simp only [fit,Bool.false_eq_true,Bool.and_eq_true,decide_eq_true_eq] at hf
     rename_i k esz body r'
     have key :∃isnil z l,(if f.hasV ver=true then lstG d.size (valG p false) ((t.at i).l.take 32767) else .lst true 0 [])=.lst isnil z l∧(∀g∈l,k.ty body.ty g)∧l.length≤2147483647∧(l=[]∨z=esz):=by
      split
      ·rename_i hh
       have:=h.1.2
       rw [hh] at this
       simp only [Bool.not_true,Bool.false_or,Bool.and_eq_true] at this
       exact kOE hf.1.2 (kB4 _) fun y _=>fitE_ty hf.1.1 (kG8 this.1.2)
      ·exact ⟨_,_,_,rfl,by simp,by simp,.inl rfl⟩
     obtain ⟨b,z,l,e,h1,h2,h3⟩:=key
     exact ⟨b,z,l,_,by rw [Sc.vals,e],h1,h2,h3,ih _ fs (i+1) t h.2 hf.2 hk⟩
 | lss vc ln bytes z dfl body rest ihb ih =>
   intro tl fds i t h hf hk
   cases fds with
   | nil=>simp [Sc.rvB] at h
   | cons f fs =>
     simp only [Sc.rvB,Bool.and_eq_true] at h
     cases tl with
     | lst k esz b r' =>
       cases k with
       | tell ft =>
         simp only [fit,Bool.and_eq_true,decide_eq_true_eq] at hf
         have key :∃isnil z l,(if f.hasV ver=true then lstG body.size (fun y=>.rcd (body.vals ver x f.sub 0 y)) ((t.at i).l.take 32767) else .lst true 0 [])=.lst isnil z l∧(∀g∈l,(EK.tell ft).ty b.ty g)∧l.length≤2147483647∧(l=[]∨z=esz):=by
          split
          ·rename_i hh
           have hb:body.rvB ver x f.sub=true:=by
            have:=h.1.2
            rw [hh] at this
            simp only [Bool.not_true,Bool.false_or,Bool.and_eq_true] at this
            exact this.2
           exact kOE hf.1.2 (kB4 _) fun y hy=>⟨_,rfl,ihb b f.sub 0 y hb hf.1.1 (TR.kEU (hk.at i) (List.mem_of_mem_take hy))⟩
          ·exact ⟨_,_,_,rfl,by simp,by simp,.inl rfl⟩
         obtain ⟨bb,z,l,e,h1,h2,h3⟩:=key
         exact ⟨bb,z,l,_,by rw [Sc.vals,e],h1,h2,h3,ih _ fs (i+1) t h.2 hf.2 hk⟩
       | num c=>simp [fit] at hf
       | str=>simp [fit] at hf
     | _=>simp [fit] at hf
 | sub vc dfl body rest ihb ih =>
   intro tl fds i t h hf hk
   cases fds with
   | nil=>simp [Sc.rvB] at h
   | cons f fs =>
     simp only [Sc.rvB,Bool.and_eq_true] at h
     cases tl<;>simp only [fit,Bool.false_eq_true,Bool.and_eq_true] at hf
     rename_i ff n b r'
     have key :∃l,(if f.hasV ver=true then GV.rcd (body.vals ver x f.sub 0 (t.at i)) else .rcd body.dgv)=.rcd l∧b.ty l:=by
      split
      ·rename_i hh
       have hb:body.rvB ver x f.sub=true:=by
        have:=h.1.2
        rw [hh] at this
        simp only [Bool.not_true,Bool.false_or,Bool.and_eq_true] at this
        exact this.2
       exact ⟨_,rfl,ihb b f.sub 0 (t.at i) hb hf.1.1 (hk.at i)⟩
      ·exact ⟨_,rfl,kN0 body b hf.1.1⟩
     obtain ⟨l,e,h1⟩:=key
     exact ⟨l,_,by rw [Sc.vals,e],h1,ih _ fs (i+1) t h.2 hf.2 hk,rfl⟩
end
def rvV (T:Top) (m:MD) (ver:Int):Bool:=T.rv.isNone&&(T.x ver==m.qZ ver)&&neB ver (m.qZ ver) m.fs&&T.sc.rvB ver (m.qZ ver) m.fs
def rvOk (T:Top) (m:MD) (most:Nat):Bool:=FD.zN m.fs&&(List.range (most+1)).all fun v=>rvV T m (v:Nat)
end Go.Msk
namespace Go.Msk
open Go.RowKit
set_option maxRecDepth 100000
mutual
/-- Does a tree say what is so by default? -/
def FD.usB:FD→TR→Bool
 | .mk kind _ _ null _ dfl _ sub,x =>
   (!decide (kind=8)||(x.null==decide (null≥0)&&x.s.isEmpty))&&(!decide (kind=7)||x.s==List.replicate 16 0)&&(!(decide (kind=9)||decide (kind=11))||(x.s.isEmpty&&x.l.isEmpty)) &&
   (!decide (kind=10)||((!decide (null≥0)||x.null)&&(!decide (null<0)||(x.u.isEmpty&&usBL sub 0 x))))&&(decide (kind=7)||decide (kind=8)||decide (kind=9)||decide (kind=10)||decide (kind=11)||decide (x.n=yL kind dfl))
def usBL:List FD→Nat→TR→Bool
 | [],_,_=>true
 | f::fs,i,x=>f.usB (x.at i)&&usBL fs (i+1) x
end
mutual
theorem FD.kHB :∀(f:FD) (x:TR),f.usB x=true→f.kAY x
 | .mk kind frm to null tag dfl of sub,x,h=>by
   simp only [FD.usB,Bool.and_eq_true,Bool.or_eq_true,Bool.not_eq_true',decide_eq_false_iff_not,decide_eq_true_eq,beq_iff_eq,List.isEmpty_iff] at h
   obtain ⟨⟨⟨⟨h8,h7⟩,h9⟩,h10⟩,hn⟩:=h
   refine ⟨fun k=>h8.resolve_left (absurd k),fun k=>h7.resolve_left (absurd k),fun k=>?_,fun k=>?_,fun a b c d e=>?_⟩
   ·rcases h9 with h9|h9
    ·simp only [Bool.or_eq_false_iff,decide_eq_false_iff_not] at h9
     rcases k with k|k
     ·exact absurd k h9.1
     ·exact absurd k h9.2
    ·exact h9
   ·obtain ⟨q1,q2⟩:=h10.resolve_left (absurd k)
    refine ⟨fun k=>q1.resolve_left (absurd k),fun k=>?_⟩
    obtain ⟨q3,q4⟩:=q2.resolve_left (absurd k)
    exact ⟨q3,kQV sub 0 x q4⟩
   ·rcases hn with ((((hn|hn)|hn)|hn)|hn)|hn
    ·exact absurd hn a
    ·exact absurd hn b
    ·exact absurd hn c
    ·exact absurd hn d
    ·exact absurd hn e
    ·exact hn
theorem kQV :∀(l:List FD) (i:Nat) (x:TR),usBL l i x=true→kFX l i x
 | [],_,_,_=>trivial
 | f::fs,i,x,h=>by
   simp only [usBL,Bool.and_eq_true] at h
   exact ⟨FD.kHB f _ h.1,kQV fs (i+1) x h.2⟩
end
def Sc.toB (ver:Int):Sc→List FD→Bool
 | .nil,_=>true
 | .tags _,_=>true
 | .prm _ _ _ _ d rest,fds=>match fds with
   | f::fs=>(if f.hasV ver then decide (f.kind=8)||!f.nulB ver else f.usB d.gv.told)&&rest.toB ver fs
   | []=>false
 | .enm _ _ _ _ d rest,fds=>match fds with
   | f::fs=>(if f.hasV ver then decide (f.kind=8)||!f.nulB ver else f.usB d.gv.told)&&rest.toB ver fs
   | []=>false
 | .vst _ _ _ _ _,_=>false
 | .uid _ _ rest,fds=>match fds with
   | f::fs=>(if f.hasV ver then !f.nulB ver else f.usB (GV.arr (List.replicate 16 0)).told)&&rest.toB ver fs
   | []=>false
 | .lsp _ _ _ _ _ _ _ rest,fds=>match fds with
   | f::fs=>(f.hasV ver||f.usB (GV.lst true 0 []).told)&&rest.toB ver fs
   | []=>false
 | .lss _ _ _ _ _ body rest,fds=>match fds with
   | f::fs=>(if f.hasV ver then body.toB ver f.sub else f.usB (GV.lst true 0 []).told)&&rest.toB ver fs
   | []=>false
 | .sub _ _ body rest,fds=>match fds with
   | f::fs=>(if f.hasV ver then body.toB ver f.sub else f.usB (GV.rcd body.dgv).told)&&rest.toB ver fs
   | []=>false
theorem kI2 {p:PK} {kind:Int} {nul null may:Bool} {t:TR} {part:TR→TR→Prop} (hk:kindOk kind nul p=true) (hn:null=true→nul=true) (hm:kind=8∨may=false) (ht:IntKind.i64.wrap t.n=t.n):valT kind part null may t (valG p null t).told:=by
 cases p with
 | bool =>
   simp only [kindOk,decide_eq_true_eq] at hk
   subst hk
   have hm:may=false:=hm.resolve_left (by decide)
   subst hm
   refine ⟨by simp,fun _=>⟨by simp,by simp,by simp,fun _ _ _ _ _=>?_⟩⟩
   have h2:t.n%2=0∨t.n%2=1:=by omega
   show (if decide (t.n%2≠0)=true then (1:Int) else 0)=t.n%2
   rcases h2 with h2|h2<;>simp [h2]
 | i8 =>
   simp only [kindOk,decide_eq_true_eq] at hk
   subst hk
   have hm:may=false:=hm.resolve_left (by decide)
   subst hm
   exact ⟨by simp,fun _=>⟨by simp,by simp,by simp,fun _ _ _ _ _=>by simp [valG,GV.told,TR.n,yL,kIW]⟩⟩
 | i16 =>
   simp only [kindOk,decide_eq_true_eq] at hk
   subst hk
   have hm:may=false:=hm.resolve_left (by decide)
   subst hm
   exact ⟨by simp,fun _=>⟨by simp,by simp,by simp,fun _ _ _ _ _=>by simp [valG,GV.told,TR.n,yL,kFV]⟩⟩
 | i32 =>
   simp only [kindOk,decide_eq_true_eq] at hk
   subst hk
   have hm:may=false:=hm.resolve_left (by decide)
   subst hm
   exact ⟨by simp,fun _=>⟨by simp,by simp,by simp,fun _ _ _ _ _=>by simp [valG,GV.told,TR.n,yL,kFW]⟩⟩
 | i64 =>
   simp only [kindOk,decide_eq_true_eq] at hk
   subst hk
   have hm:may=false:=hm.resolve_left (by decide)
   subst hm
   refine ⟨by simp,fun _=>⟨by simp,by simp,by simp,fun _ _ _ _ _=>?_⟩⟩
   show IntKind.i64.wrap (IntKind.i64.wrap t.n)=t.n
   rw [ht,ht]
 | u16 =>
   simp only [kindOk,decide_eq_true_eq] at hk
   subst hk
   have hm:may=false:=hm.resolve_left (by decide)
   subst hm
   refine ⟨by simp,fun _=>⟨by simp,by simp,by simp,fun _ _ _ _ _=>?_⟩⟩
   show IntKind.i64.wrap (t.n%65536)=t.n%65536
   simp only [IntKind.wrap,IntKind.bits,IntKind.signed];simp;omega
 | uuid =>
   simp only [kindOk,decide_eq_true_eq] at hk
   subst hk
   have hm:may=false:=hm.resolve_left (by decide)
   subst hm
   exact ⟨by simp,fun _=>⟨by simp,fun _=>rfl,by simp,by simp⟩⟩
 | str =>
   simp only [kindOk,Bool.and_eq_true,decide_eq_true_eq,Bool.not_eq_true'] at hk
   obtain ⟨rfl,hnul⟩:=hk
   have hnull:null=false:=by cases null<;>simp_all
   subst hnull
   refine ⟨fun _=>rfl,fun _=>⟨fun _=>?_,by simp,by simp,by simp⟩⟩
   simp [valG,GV.told,Msk.str,TR.s]
 | nstr =>
   simp only [kindOk,decide_eq_true_eq] at hk
   subst hk
   cases null with
   | true=>exact ⟨fun _=>rfl,fun h=>by simp at h⟩
   | false=>exact ⟨fun _=>rfl,fun _=>⟨fun _=>rfl,by simp,by simp,by simp⟩⟩
 | byt =>
   simp only [kindOk,Bool.and_eq_true,decide_eq_true_eq,Bool.not_eq_true'] at hk
   obtain ⟨rfl,hnul⟩:=hk
   have hnull:null=false:=by cases null<;>simp_all
   subst hnull
   exact ⟨fun _=>rfl,fun _=>⟨fun _=>rfl,by simp,by simp,by simp⟩⟩
 | u32=>simp [kindOk] at hk
 | nbyt=>simp [kindOk] at hk
theorem kKG (p:PK) (null:Bool) (t:TR) :∀m,valG p null t≠.tag m:=by intro m;cases p<;>simp [valG]
theorem df_nt (d:Df) :∀m,d.gv≠.tag m:=by intro m;cases d<;>simp [Df.gv]
theorem xU {g:GV} {l:List GV} (h :∀m,g≠.tag m):GV.vC (g::l)=GV.vC l:=by
 cases g with
 | tag m=>exact absurd rfl (h m)
 | _=>rfl
theorem wR {ver:Int} {x:Bool} {f:FD} {fs:List FD} {i:Nat} {t:TR} {g:GV} {l:List GV} (hg :∀m,g≠.tag m) (h1:f.hasV ver=true→f.kAZ ver x (t.at i) g.told) (h2:f.hasV ver=false→f.kAY g.told) (h3:wI ver x fs (i+1) t (GV.vD l)) :
  wI ver x (f::fs) i t (GV.vD (g::l)):=by
 rw [GV.wP hg]
 exact ⟨_,_,rfl,h1,h2,h3⟩
section
variable {ver:Int} {x:Bool}
theorem kDW {f:FD} {p:PK} {t:TR} (hk:kindOk f.kind (f.nulB ver) p=true) (hb:(decide (f.kind=8)||!f.nulB ver)=true) (ht:IntKind.i64.wrap t.n=t.n):f.kAZ ver x t (valG p (f.jR ver t) t).told:=by
 obtain ⟨kind,frm,to,null,tag,dfl,of,sub⟩:=f
 simp only [FD.kAZ]
 refine ⟨kI2 hk (fun h=>?_) ?_ ht,fun h11=>?_⟩
 ·simp only [FD.jR,Bool.and_eq_true] at h
  simp only [FD.nulB,Bool.and_eq_true]
  exact h.2
 ·simp only [Bool.or_eq_true,decide_eq_true_eq,Bool.not_eq_true'] at hb
  rcases hb with hb|hb
  ·exact .inl hb
  ·exact .inr hb
 ·simp only [FD.kind] at hk
  subst h11
  cases p<;>simp [kindOk] at hk
theorem kK9 {f:FD} {sz:Nat} {val:TR→GV} {t:TR} (h11:f.kind=11) (hn:f.nulB ver=false) (hof:f.of≠11) (h :∀y∈t.l.take 32767,valT f.of (partT ver x f.sub) false false y (val y).told):f.kAZ ver x t (lstG sz val (t.l.take 32767)).told:=by
 obtain ⟨kind,frm,to,null,tag,dfl,of,sub⟩:=f
 simp only [FD.kind,FD.of,FD.sub] at h11 hof h
 subst h11
 simp only [FD.kAZ]
 have hnv:FD.jR (.mk 11 frm to null tag dfl of sub) ver t=false:=by
  simp only [FD.nulB,FD.null] at hn
  simp only [FD.jR,FD.null,hn,Bool.and_false]
 have hm:mayV null ver=false:=hn
 rw [hnv,hm]
 refine ⟨⟨by simp,fun _=>⟨by simp,by simp,by simp,by simp⟩⟩,fun _ _=>⟨hof,?_,fun i y z hy hz=>?_⟩⟩
 ·show (GV.wI ((t.l.take 32767).map val)).length=_
  rw [GV.uG];simp
 ·have hz:(GV.wI ((t.l.take 32767).map val))[i]?=some z:=hz
  rw [GV.uG,List.map_map,List.getElem?_map,hy] at hz
  simp only [Option.map_some,Option.some.injEq,Function.comp] at hz
  subst hz
  exact h y (List.mem_of_getElem? hy)
theorem kOG :∀(sc:Sc) (fds:List FD) (i:Nat) (t:TR),sc.rvB ver x fds=true→sc.toB ver fds=true→t.kok→t.nok→wI ver x fds i t (GV.vD (sc.vals ver x fds i t))∧GV.vC (sc.vals ver x fds i t)=(if x then zT (unk t.u) else []):=by
 intro sc
 induction sc with
 | nil =>
   intro fds i t h hb hk hn
   cases fds<;>simp [Sc.rvB] at h
   subst h
   exact ⟨rfl,rfl⟩
 | tags f =>
   intro fds i t h hb hk hn
   cases fds<;>simp [Sc.rvB] at h
   refine ⟨rfl,?_⟩
   have hku :∀p∈t.u,p.1<4294967296:=by cases t;exact hk.1
   obtain ⟨h1,-⟩:=kIR hku
   cases x with
   | false=>rfl
   | true =>
     simp only [Sc.vals,if_true,GV.vC]
     refine kET ?_
     unfold zT;rw [List.pairwise_map];exact h1.1
 | prm vc init rr p d rest ih =>
   intro fds i t h hb hk hn
   cases fds with
   | nil=>simp [Sc.rvB] at h
   | cons f fs =>
     simp only [Sc.rvB,Bool.and_eq_true] at h
     simp only [Sc.toB,Bool.and_eq_true] at hb
     obtain ⟨k1,k2⟩:=ih fs (i+1) t h.2 hb.2 hk hn
     have hnt :∀m,(if f.hasV ver=true then valG p (f.jR ver (t.at i)) (t.at i) else d.gv)≠.tag m:=fun m=>by split<;>first|exact kKG _ _ _ m|exact df_nt d m
     refine ⟨wR hnt (fun hh=>?_) (fun hh=>?_) k1,by rw [Sc.vals,xU hnt];exact k2⟩
     ·rw [if_pos hh]
      have q1:=h.1.2
      have q2:=hb.1
      rw [hh] at q1 q2
      exact kDW (by simpa using q1) (by simpa using q2) (by have:=hn.at i;cases hy:t.at i;rw [hy] at this;exact this.1)
     ·have q2:=hb.1
      rw [hh] at q2
      rw [if_neg (by simp [hh])]
      exact FD.kHB f _ (by simpa using q2)
 | enm vc init rr p d rest ih =>
   intro fds i t h hb hk hn
   cases fds with
   | nil=>simp [Sc.rvB] at h
   | cons f fs =>
     simp only [Sc.rvB,Bool.and_eq_true] at h
     simp only [Sc.toB,Bool.and_eq_true] at hb
     obtain ⟨k1,k2⟩:=ih fs (i+1) t h.2 hb.2 hk hn
     have hnt :∀m,(if f.hasV ver=true then valG p (f.jR ver (t.at i)) (t.at i) else d.gv)≠.tag m:=fun m=>by split<;>first|exact kKG _ _ _ m|exact df_nt d m
     refine ⟨wR hnt (fun hh=>?_) (fun hh=>?_) k1,by rw [Sc.vals,xU hnt];exact k2⟩
     ·rw [if_pos hh]
      have q1:=h.1.2
      have q2:=hb.1
      rw [hh] at q1 q2
      exact kDW (by simpa using q1) (by simpa using q2) (by have:=hn.at i;cases hy:t.at i;rw [hy] at this;exact this.1)
     ·have q2:=hb.1
      rw [hh] at q2
      rw [if_neg (by simp [hh])]
      exact FD.kHB f _ (by simpa using q2)
 | vst _ _ _ _ rest ih=>intro fds i t h;simp [Sc.rvB] at h
 | uid vc ff rest ih =>
   intro fds i t h hb hk hn
   cases fds with
   | nil=>simp [Sc.rvB] at h
   | cons f fs =>
     simp only [Sc.rvB,Bool.and_eq_true] at h
     simp only [Sc.toB,Bool.and_eq_true] at hb
     obtain ⟨k1,k2⟩:=ih fs (i+1) t h.2 hb.2 hk hn
     have hnt :∀m,(if f.hasV ver=true then GV.arr (vF (t.at i).s) else .arr (List.replicate 16 0))≠.tag m:=fun m=>by split<;>simp
     refine ⟨wR hnt (fun hh=>?_) (fun hh=>?_) k1,by rw [Sc.vals,xU hnt];exact k2⟩
     ·rw [if_pos hh]
      have q1:=h.1.2
      have q2:=hb.1
      rw [hh] at q1 q2
      have e7:f.kind=7:=by simpa using q1
      exact kDW (p:=.uuid) (by simp [kindOk,e7]) (by simp at q2;simp [q2]) (by have:=hn.at i;cases hy:t.at i;rw [hy] at this;exact this.1)
     ·have q2:=hb.1
      rw [hh] at q2
      rw [if_neg (by simp [hh])]
      exact FD.kHB f _ (by simpa using q2)
 | lsp vc ln bytes d init rr p rest ih =>
   intro fds i t h hb hk hn
   cases fds with
   | nil=>simp [Sc.rvB] at h
   | cons f fs =>
     simp only [Sc.rvB,Bool.and_eq_true] at h
     simp only [Sc.toB,Bool.and_eq_true] at hb
     obtain ⟨k1,k2⟩:=ih fs (i+1) t h.2 hb.2 hk hn
     have hnt :∀m,(if f.hasV ver=true then lstG d.size (valG p false) ((t.at i).l.take 32767) else .lst true 0 [])≠.tag m:=fun m=>by split<;>simp [lstG]
     refine ⟨wR hnt (fun hh=>?_) (fun hh=>?_) k1,by rw [Sc.vals,xU hnt];exact k2⟩
     ·rw [if_pos hh]
      have q1:=h.1.2
      rw [hh] at q1
      simp only [Bool.not_true,Bool.false_or,Bool.and_eq_true,decide_eq_true_eq,Bool.not_eq_true'] at q1
      obtain ⟨⟨e1,e2⟩,e3⟩:=q1
      refine kK9 e1.2 e3 (fun e=>?_) fun y hy=>kI2 e2 (by simp) (.inr rfl) ?_
      ·rw [e] at e2;cases p<;>simp [kindOk] at e2
      ·have hat:=hn.at i
       have:y.nok:=by
        cases ht:t.at i with
        | mk n s b l u=>rw [ht] at hat hy;exact TR.kDU hat.2 y (List.mem_of_mem_take hy)
       cases y;exact this.1
     ·have q2:=hb.1
      rw [hh] at q2
      rw [if_neg (by simp [hh])]
      exact FD.kHB f _ (by simpa using q2)
 | lss vc ln bytes z dfl body rest ihb ih =>
   intro fds i t h hb hk hn
   cases fds with
   | nil=>simp [Sc.rvB] at h
   | cons f fs =>
     simp only [Sc.rvB,Bool.and_eq_true] at h
     simp only [Sc.toB,Bool.and_eq_true] at hb
     obtain ⟨k1,k2⟩:=ih fs (i+1) t h.2 hb.2 hk hn
     have hnt :∀m,(if f.hasV ver=true then lstG body.size (fun y=>.rcd (body.vals ver x f.sub 0 y)) ((t.at i).l.take 32767) else .lst true 0 [])≠.tag m:=fun m=>by split<;>simp [lstG]
     refine ⟨wR hnt (fun hh=>?_) (fun hh=>?_) k1,by rw [Sc.vals,xU hnt];exact k2⟩
     ·rw [if_pos hh]
      have q1:=h.1.2
      have q2:=hb.1
      rw [hh] at q1 q2
      simp only [Bool.not_true,Bool.false_or,Bool.and_eq_true,decide_eq_true_eq,Bool.not_eq_true'] at q1
      simp only [if_true] at q2
      obtain ⟨⟨⟨⟨⟨e1,e2⟩,e3⟩,e4⟩,e5⟩,e6⟩:=q1
      refine kK9 e1.2 e3 (by rw [e2];decide) fun y hy=>?_
      have hat:=hn.at i
      have hyn:y.nok:=by
       cases ht:t.at i with
       | mk n s b l u=>rw [ht] at hat hy;exact TR.kDU hat.2 y (List.mem_of_mem_take hy)
      obtain ⟨r1,r2⟩:=ihb f.sub 0 y e6 q2 (TR.kEU (hk.at i) (List.mem_of_mem_take hy)) hyn
      rw [e2]
      refine ⟨fun _=>rfl,fun _=>⟨by simp,by simp,fun _=>⟨r1,?_⟩,by simp⟩⟩
      show GV.vC _=_
      rw [r2,yY e5]
     ·have q2:=hb.1
      rw [hh] at q2
      rw [if_neg (by simp [hh])]
      exact FD.kHB f _ (by simpa using q2)
 | sub vc dfl body rest ihb ih =>
   intro fds i t h hb hk hn
   cases fds with
   | nil=>simp [Sc.rvB] at h
   | cons f fs =>
     simp only [Sc.rvB,Bool.and_eq_true] at h
     simp only [Sc.toB,Bool.and_eq_true] at hb
     obtain ⟨k1,k2⟩:=ih fs (i+1) t h.2 hb.2 hk hn
     have hnt :∀m,(if f.hasV ver=true then GV.rcd (body.vals ver x f.sub 0 (t.at i)) else .rcd body.dgv)≠.tag m:=fun m=>by split<;>simp
     refine ⟨wR hnt (fun hh=>?_) (fun hh=>?_) k1,by rw [Sc.vals,xU hnt];exact k2⟩
     ·rw [if_pos hh]
      have q1:=h.1.2
      have q2:=hb.1
      rw [hh] at q1 q2
      simp only [Bool.not_true,Bool.false_or,Bool.and_eq_true,decide_eq_true_eq] at q1
      simp only [if_true] at q2
      obtain ⟨⟨⟨e1,e2⟩,e3⟩,e4⟩:=q1
      obtain ⟨r1,r2⟩:=ihb f.sub 0 (t.at i) e4 q2 (hk.at i) (hn.at i)
      obtain ⟨kind,frm,to,null,tag,dfl',of,sub⟩:=f
      simp only [FD.kind,FD.null,FD.sub] at e1 e2 e3 r1 r2
      subst e1
      simp only [FD.kAZ]
      have hnv:FD.jR (.mk 10 frm to null tag dfl' of sub) ver (t.at i)=false:=by
       simp only [FD.jR,FD.null]
       simp;omega
      have hmv:mayV null ver=false:=by simp only [mayV];simp;omega
      rw [hnv,hmv]
      refine ⟨⟨fun _=>rfl,fun _=>⟨by simp,by simp,fun _=>⟨r1,?_⟩,by simp⟩⟩,by simp⟩
      show GV.vC (body.vals ver x sub 0 (t.at i))=_
      rw [r2,yY e3]
     ·have q2:=hb.1
      rw [hh] at q2
      rw [if_neg (by simp [hh])]
      exact FD.kHB f _ (by simpa using q2)
end
end Go.Msk
namespace Go.Msk
open Go.RowKit
set_option maxRecDepth 100000
structure kLA where
 mx:FuncId
 newp:FuncId
 maxv:FuncId
 setv:FuncId
 rf:FuncId
 rd:FuncId
 tell:FuncId
 door:FuncId
 sm:FuncId
structure kQW (P:Program) (F:Nat→Nat) (has:Nat→Bool) (M:kLA) (T:Top) (tl:Tl) (fx:List FX) (flex:Int) (z:List Value) (most:Nat):Prop where
 mx:kH P M.mx=some (uJ M.newp M.maxv)
 maxv:kH P M.maxv=some (kCZ most)
 newp:kH P M.newp=some (kBV z T.dfl)
 setv:kH P M.setv=some kC0
 rf:kH P M.rf=some (kII M.rd false)
 rd:kH P M.rd=some T.gen
 tell:kH P M.tell=some (tl.code 1)
 door:kH P M.door=some (kDV M.newp M.setv M.rf M.tell)
 sm:kH P M.sm=some (FX.kFT fx flex)
 fxs:FX.OkL P fx
 cnt:Nat.blt fx.length 1000=true
 dfl :∃l,kH P T.dfl=some (kPH l)∧dfOk l (T.sc.dcs.flatten.length+1)∧z.length=T.sc.dcs.flatten.length+1∧kGO l z=.int .i16 0::T.sc.dcs.flatten ∧∀ver,kGO l (.int .i16 ver::T.sc.dcs.flatten)=.int .i16 ver::T.sc.dcs.flatten
 dfs:kCH P T.sc.dfs
 okT:T.okB F has=true
 okL:tl.okB F has=true
 subs:uZ P tl.subs
 cbs:kEZ P tl.cbs
 fits:fit T.sc tl=true
 small:T.sc.jJ=true
 len:T.sc.len≤1000
 tlen:tl.len≤1000
 rv:rvOk T ⟨FX.fds fx,flex⟩ most=true
 told:((List.range (most+1)).all fun v=>T.sc.toB (v:Nat) (FX.fds fx))=true
 most:most<32768
section
variable {P:Program} {F:Nat→Nat} {has:Nat→Bool} {M:kLA} {T:Top} {tl:Tl} {fx:List FX} {flex:Int} {z:List Value} {most:Nat}
theorem kQW.plain (h:kQW P F has M T tl fx flex z most):FD.zN (FX.fds fx)=true:=by
 have:=h.rv;simp only [rvOk,Bool.and_eq_true] at this;exact this.1
end
structure FE where
 ptr:Bool
 fat:FuncId
 sx:FuncId
 deriving Inhabited
def FE.tr (E:FE):Nat:=if E.ptr then 3 else 1
def FE.k (E:FE):Nat:=if E.ptr then 1 else 0
def FE.aOps (E:FE) (t:Nat):List RI:=if E.ptr then [⟨some t,.mv (.tmp 0),none⟩] else []
def FE.stO (E:FE) (t u off sz v:Nat):List RI :=
 if E.ptr then [⟨some u,.nilc (.tmp t),none⟩,⟨some (u+1),.fad (.tmp u) off,none⟩,⟨none,.st (.tmp (u+1)) sz (.tmp v),none⟩]
 else [⟨some u,.fad (.tmp 3) off,none⟩,⟨none,.st (.tmp u) sz (.tmp v),none⟩]
def FE.atO (E:FE) (t i:Nat):List RI:=[⟨some t,.ldn (.tmp E.tr) 5,none⟩,⟨some (t+1),.call E.fat [.tmp t,.const (.int .i64 (i:Nat))],none⟩]
def fldOf:PK→Nat
 | .str=>1
 | .uuid=>1
 | _=>0
def cvR (sx:FuncId) (p:PK) (a:Nat):List RI :=
 match p with
 | .bool=>[⟨some (a+1),.bin .and (.tmp a) (.const (.int .i64 1)),none⟩,⟨some (a+2),.bin .eql (.tmp (a+1)) (.const (.int .i64 1)),none⟩]
 | .i8=>[⟨some (a+1),.conv .i8 (.tmp a),none⟩]
 | .i16=>[⟨some (a+1),.conv .i16 (.tmp a),none⟩]
 | .u16=>[⟨some (a+1),.conv .u16 (.tmp a),none⟩]
 | .i32=>[⟨some (a+1),.conv .i32 (.tmp a),none⟩]
 | .str=>[⟨some (a+1),.b2s (.tmp a),none⟩]
 | .uuid=>[⟨some (a+1),.call sx [.tmp a],none⟩]
 | _=>[]
def cvN:PK→Nat
 | .bool=>2
 | .i64=>0
 | .i8|.i16|.u16|.i32|.str|.uuid=>1
 | _=>0
def ziP:PK→List Value
 | .bool=>[.bool false]
 | .i8=>[.int .i8 0]
 | .i16=>[.int .i16 0]
 | .u16=>[.int .u16 0]
 | .i32=>[.int .i32 0]
 | .i64=>[.int .i64 0]
 | .str=>[.string .empty]
 | .uuid=>u8s (List.replicate 16 0)
 | _=>[.int .i64 0]
inductive Fl where
 | nil
 | prm (p:PK) (rest:Fl)
 | lsp (p:PK) (bytes:Nat) (rest:Fl)
 | lss (f:FuncId) (bytes:Nat) (body rest:Fl)
 | tags (set:FuncId)
 deriving Inhabited
def Fl.zs:Fl→List (List Value)
 | .nil=>[]
 | .prm p rest=>ziP p::rest.zs
 | .lsp _ _ rest=>[.slice none 0 0]::rest.zs
 | .lss _ _ _ rest=>[.slice none 0 0]::rest.zs
 | .tags _=>[[.map none]]
abbrev Fl.z (fl:Fl):List Value:=fl.zs.flatten
def Fl.loops:Fl→Nat
 | .nil=>0
 | .prm _ rest=>rest.loops
 | .lsp _ _ rest=>1+rest.loops
 | .lss _ _ _ rest=>1+rest.loops
 | .tags _=>1
def nd' (r:RI):DI:=⟨r,false,[]⟩
def appS (E:FE) (c xv off bytes:Nat) (f:FuncId) (z:List Value):IC :=
 if E.ptr then .drw [⟨⟨some c,.mv (.tmp 0),none⟩,false,[]⟩,⟨⟨some (c+1),.mv (.tmp 0),none⟩,false,[]⟩,⟨⟨some (c+2),.nilc (.tmp (c+1)),none⟩,false,[]⟩,⟨⟨some (c+3),.fad (.tmp (c+2)) off,none⟩,false,[]⟩,⟨⟨some (c+4),.ld (.tmp (c+3)),none⟩,false,[]⟩,
   ⟨⟨some (c+5),.ldn (.tmp xv) 5,none⟩,false,[]⟩,⟨⟨some (c+6),.call f [.tmp (c+5)],none⟩,true,[]⟩,⟨⟨some (c+7),.bslice 1 z [(0,z.length,.tmp (c+6))],none⟩,true,[6]⟩,⟨⟨some (c+8),.append (.tmp (c+4)) (.tmp (c+7)) z.length bytes,none⟩,true,[6,7]⟩,
   ⟨⟨some (c+9),.nilc (.tmp c),none⟩,false,[6,7,8]⟩,⟨⟨some (c+10),.fad (.tmp (c+9)) off,none⟩,false,[6,7,8]⟩] [⟨none,.st (.tmp (c+10)) 1 (.tmp (c+8)),none⟩]
 else .drw [⟨⟨some c,.fad (.tmp 3) off,none⟩,false,[]⟩,⟨⟨some (c+1),.ld (.tmp c),none⟩,false,[]⟩,⟨⟨some (c+2),.ldn (.tmp xv) 5,none⟩,false,[]⟩,⟨⟨some (c+3),.call f [.tmp (c+2)],none⟩,true,[]⟩,⟨⟨some (c+4),.bslice 1 z [(0,z.length,.tmp (c+3))],none⟩,true,[3]⟩]
   [⟨some (c+5),.append (.tmp (c+1)) (.tmp (c+4)) z.length bytes,none⟩,⟨some (c+6),.fad (.tmp 3) off,none⟩,⟨none,.st (.tmp (c+6)) 1 (.tmp (c+5)),none⟩]
def FE.nS (E:FE):Nat:=if E.ptr then 11 else 7
def appP (E:FE) (c xv off bytes:Nat) (p:PK):IC :=
 if E.ptr then .drw ([nd' ⟨some c,.mv (.tmp 0),none⟩,nd' ⟨some (c+1),.mv (.tmp 0),none⟩,nd' ⟨some (c+2),.nilc (.tmp (c+1)),none⟩,nd' ⟨some (c+3),.fad (.tmp (c+2)) off,none⟩,nd' ⟨some (c+4),.ld (.tmp (c+3)),none⟩,
   nd' ⟨some (c+5),.fad (.tmp xv) (fldOf p),none⟩,nd' ⟨some (c+6),.ld (.tmp (c+5)),none⟩]++((cvR E.sx p (c+6)).map nd'++[⟨⟨some (c+7+cvN p),.bslice 1 (ziP p) [(0,1,.tmp (c+6+cvN p))],none⟩,true,[]⟩,⟨⟨some (c+8+cvN p),.append (.tmp (c+4)) (.tmp (c+7+cvN p)) 1 bytes,none⟩,true,[7+cvN p]⟩,
   ⟨⟨some (c+9+cvN p),.nilc (.tmp c),none⟩,false,[7+cvN p,8+cvN p]⟩,⟨⟨some (c+10+cvN p),.fad (.tmp (c+9+cvN p)) off,none⟩,false,[7+cvN p,8+cvN p]⟩])) [⟨none,.st (.tmp (c+10+cvN p)) 1 (.tmp (c+8+cvN p)),none⟩]
 else .blk ([⟨some c,.fad (.tmp 3) off,none⟩,⟨some (c+1),.ld (.tmp c),none⟩,⟨some (c+2),.fad (.tmp xv) (fldOf p),none⟩,⟨some (c+3),.ld (.tmp (c+2)),none⟩]++(cvR E.sx p (c+3) ++
   [⟨some (c+4+cvN p),.bslice 1 (ziP p) [(0,1,.tmp (c+3+cvN p))],none⟩,⟨some (c+5+cvN p),.append (.tmp (c+1)) (.tmp (c+4+cvN p)) 1 bytes,none⟩,⟨some (c+6+cvN p),.fad (.tmp 3) off,none⟩,⟨none,.st (.tmp (c+6+cvN p)) 1 (.tmp (c+5+cvN p)),none⟩]))
def FE.nP (E:FE) (p:PK):Nat:=if E.ptr then 11+cvN p else 7+cvN p
def setT (E:FE) (c xv off:Nat) (set:FuncId):IC :=
 if E.ptr then .drw [⟨⟨some c,.mv (.tmp 0),none⟩,false,[]⟩,⟨⟨some (c+1),.nilc (.tmp c),none⟩,false,[]⟩,⟨⟨some (c+2),.fad (.tmp (c+1)) off,none⟩,false,[]⟩,⟨⟨some (c+3),.fad (.tmp xv) 0,none⟩,false,[]⟩,⟨⟨some (c+4),.ld (.tmp (c+3)),none⟩,false,[]⟩,
   ⟨⟨some (c+5),.fad (.tmp xv) 1,none⟩,false,[]⟩,⟨⟨some (c+6),.ld (.tmp (c+5)),none⟩,false,[]⟩,⟨⟨some (c+7),.call set [.tmp (c+2),.tmp (c+4),.tmp (c+6)],none⟩,true,[]⟩] []
 else .blk [⟨some c,.fad (.tmp 3) off,none⟩,⟨some (c+1),.fad (.tmp xv) 0,none⟩,⟨some (c+2),.ld (.tmp (c+1)),none⟩,⟨some (c+3),.fad (.tmp xv) 1,none⟩,⟨some (c+4),.ld (.tmp (c+3)),none⟩,⟨some (c+5),.call set [.tmp c,.tmp (c+2),.tmp (c+4)],none⟩]
def FE.nT (E:FE):Nat:=if E.ptr then 8 else 6
def rowL (r xv nb sz nx:Nat) (z:List Value) (body:IC):IC :=
 .block nb (.loop (.seq (.blk [⟨some (r+3),.bin .lss (.tmp (r+2)) (.tmp (r+1)),none⟩]) (.seq (.cond (.tmp (r+3)) .skip (.exit nb)) (.seq (.block (nb+1) (.seq (.blk [⟨some (r+4),.iad (.tmp r) (.tmp (r+2)) sz,none⟩,⟨some (r+5),.ldn (.tmp (r+4)) sz,none⟩,⟨some xv,.alloc z,none⟩,⟨none,.st (.tmp xv) sz (.tmp (r+5)),none⟩]) body))
  (.blk [⟨some nx,.bin .add (.tmp (r+2)) (.const (.int .i64 1)),none⟩,⟨some (r+2),.mv (.tmp nx),none⟩])))))
def lstF' (E:FE) (i off t nb xv bytes nx:Nat) (z:List Value) (body:IC):IC :=
 .seq (.blk (E.atO t i++[⟨some (t+2),.fld (.tmp (t+1)) 2 none,none⟩,⟨some (t+3),.lnot (.tmp (t+2)),none⟩])) (.cond (.tmp (t+3))
  (.seq (.blk (E.aOps (t+4)++(E.atO (t+4+E.k) i++([⟨some (t+4+E.k+2),.fld (.tmp (t+4+E.k+1)) 3 none,none⟩,⟨some (t+4+E.k+3),.len (.tmp (t+4+E.k+2)),none⟩,⟨some (t+4+E.k+4),.mkslice (.const (.int .i64 0)) (.tmp (t+4+E.k+3)) bytes z,none⟩]++E.stO (t+4) (t+4+E.k+5) off 1 (t+4+E.k+4)))))
   (.seq (.blk (E.atO (t+10+2*E.k) i++[⟨some (t+10+2*E.k+2),.fld (.tmp (t+10+2*E.k+1)) 3 none,none⟩,⟨some (t+10+2*E.k+3),.len (.tmp (t+10+2*E.k+2)),none⟩,⟨some (t+10+2*E.k+4),.mv (.const (.int .i64 0)),none⟩]))
    (rowL (t+10+2*E.k+2) xv nb 5 nx tzero body))) .skip)
def Fl.gen (E:FE):Fl→(i off t nb xv:Nat)→List IC
 | .nil,_,_,_,_,_=>[]
 | .prm p rest,i,off,t,nb,xv =>
   .blk (E.aOps t++(E.atO (t+E.k) i++(⟨some (t+E.k+2),.fld (.tmp (t+E.k+1)) (fldOf p) none,none⟩::(cvR E.sx p (t+E.k+2)++E.stO t (t+E.k+3+cvN p) off (ziP p).length (t+E.k+2+cvN p))))) ::
    rest.gen E (i+1) (off+(ziP p).length) (t+(4+cvN p+2*E.k)) nb xv
 | .lsp p bytes rest,i,off,t,nb,xv =>
   lstF' E i off t nb xv bytes (t+18+2*E.k+E.nP p) (ziP p) (appP E (t+18+2*E.k) xv off bytes p)::rest.gen E (i+1) (off+1) (t+18+2*E.k+E.nP p+1) (nb+2) (xv+2)
 | .lss f bytes body rest,i,off,t,nb,xv =>
   lstF' E i off t nb xv bytes (t+18+2*E.k+E.nS) body.z (appS E (t+18+2*E.k) xv off bytes f body.z)::rest.gen E (i+1) (off+1) (t+18+2*E.k+E.nS+1) (nb+2) (xv+2)
 | .tags set,_,off,t,nb,xv =>
   [.seq (.blk [⟨some t,.fad (.tmp E.tr) 4,none⟩,⟨some (t+1),.ld (.tmp t),none⟩,⟨some (t+2),.len (.tmp (t+1)),none⟩,⟨some (t+3),.mv (.const (.int .i64 0)),none⟩]) (rowL (t+1) xv nb 2 (t+7+E.nT) uzero (setT E (t+7) xv off set))]
def Fl.nt (E:FE):Fl→Nat
 | .nil=>0
 | .prm p rest=>4+cvN p+2*E.k+rest.nt E
 | .lsp p _ rest=>18+2*E.k+E.nP p+1+rest.nt E
 | .lss _ _ _ rest=>18+2*E.k+E.nS+1+rest.nt E
 | .tags _=>7+E.nT+1
def Fl.genTop (fl:Fl) (fat sx:FuncId):IC×List RV×Nat :=
 (seqs (.blk [⟨some 3,.box (.tmp 1),none⟩]::fl.gen ⟨true,fat,sx⟩ 0 1 (4+2*fl.loops) 0 5),[],4+2*fl.loops+fl.nt ⟨true,fat,sx⟩)
def Fl.genMake (fl:Fl) (fat sx:FuncId):IC×List RV×Nat :=
 (seqs ([.blk [⟨some 1,.box (.tmp 0),none⟩,⟨some 2,.alloc fl.z,none⟩],.blk [⟨some 3,.alloc fl.z,none⟩]]++(fl.gen ⟨false,fat,sx⟩ 0 0 (4+2*fl.loops) 0 5 ++
  [.blk [⟨some (4+2*fl.loops+fl.nt ⟨false,fat,sx⟩),.ldn (.tmp 3) fl.z.length,none⟩,⟨none,.st (.tmp 2) fl.z.length (.tmp (4+2*fl.loops+fl.nt ⟨false,fat,sx⟩)),none⟩],.ret])),[.cells 2 fl.z.length],4+2*fl.loops+fl.nt ⟨false,fat,sx⟩+1)
def kP9 (z:List Value) (setv fill app:FuncId):IC×List RV×Nat :=
 (seqs [.blk [⟨some 3,.box (.tmp 1),none⟩,⟨some 4,.mv (.const (.slice none 0 0)),none⟩],.blk [⟨some 6,.build z [],none⟩,⟨some 7,.box (.tmp 6),none⟩,⟨some 5,.mv (.tmp 7),none⟩],
  .blk [⟨some 8,.mv (.tmp 5),none⟩,⟨some 9,.mv (.tmp 0),none⟩,⟨some 10,.conv .i16 (.tmp 9),none⟩,⟨some 11,.call setv [.tmp 8,.tmp 10],none⟩],.blk [⟨some 12,.mv (.tmp 5),none⟩,⟨some 13,.ldn (.tmp 3) 5,none⟩,⟨some 14,.call fill [.tmp 12,.tmp 13],none⟩],
  .blk [⟨some 15,.mv (.tmp 5),none⟩,⟨some 16,.call app [.tmp 15,.const (.slice none 0 0)],none⟩,⟨some 4,.mv (.tmp 16),none⟩],.ret],[.tmp 4],17)
theorem kDX (fs:List FD) (u:List (Nat×List UInt8)):(kU fs u).length≤32767:=by
 unfold kU
 have:=kBB (qN fs) (u.take 32767) []
 simp only [List.length_nil,Nat.zero_add] at this
 refine Nat.le_trans this ?_
 simp;omega
section
variable {P:Program} {F:Nat→Nat}
attribute [local simp] gOk updo upd ev RK.val? kL kM Addr.kK qE Value.cells undef
end
end Go.Msk
namespace Go.Msk
open Go.RowKit
set_option maxRecDepth 100000
mutual
/-- A field whose things are no lists. -/
def FD.fitB:FD→Bool
 | .mk kind _ _ _ _ _ of sub=>(decide (kind≠11)||decide (of≠11))&&FD.fitBL sub
def FD.fitBL:List FD→Bool
 | []=>true
 | f::l=>f.fitB&&FD.fitBL l
end
section
variable {P:Program} {F:Nat→Nat}
end
end Go.Msk
namespace Go.Msk
open Go.RowKit
set_option maxRecDepth 100000
def fOk:PK→Bool
 | .bool|.i8|.i16|.u16|.i32|.i64|.str|.uuid=>true
 | _=>false
section
variable {P:Program} {F:Nat→Nat}
attribute [local simp] gOk updo upd ev RK.val? kL kM Addr.kK qE Value.cells undef
end
section
variable {P:Program} {F:Nat→Nat}
theorem kMB {w:World} (hm:P.follows .mixedOrders=true) (h:kH P (F tSet)=some (ir_tSet F)) {tb k o:Nat} {pre post:List Value} {mv v:Value} {m:List (Nat×List UInt8)} {l:List UInt8} {ok:Nat→Prop} (hb:Blk w tb (pre++mv::post)) (ho:pre.length=o) (hM:TagM ok w mv m) (hk:k<4294967296)
  (hv:SlC ok w v l.length (u8s l)) (htb :¬ok tb) (hr0 :∀r,mv=.map (some r) →¬ok r∧r≠tb) :
  Calls P (F tSet) [.pointer (some ⟨tb,o,none⟩),.int .u32 k,v].toArray w fun e w'=>e=.returned (.tuple #[]) ∧∃r,Blk w' tb (pre++.map (some r)::post)∧y9 (fun b=>ok b∧b<w.heap.size) w' r (yI m k l)∧r≠tb ∧
   ((mv=.map (some r)∧Mod [tb,r] w w')∨(mv=.map none∧w.heap.size≤r∧Mod [tb] w w')):=by
 unfold ir_tSet at h
 refine kT h hm (by simp) ?_
 have a0:qE [.pointer (some ⟨tb,o,none⟩),.int .u32 k,v] 0=.pointer (some ⟨tb,o,none⟩):=rfl
 have a1:qE [.pointer (some ⟨tb,o,none⟩),.int .u32 k,v] 1=.int .u32 k:=rfl
 have a2:qE [.pointer (some ⟨tb,o,none⟩),.int .u32 k,v] 2=v:=rfl
 generalize qE [.pointer (some ⟨tb,o,none⟩),.int .u32 k,v]=σ0 at a0 a1 a2 ⊢
 have c0:w.cell? ⟨tb,o,none⟩=some mv:=by rw [hb.cell o];simp [←ho]
 have htl:=hb.lt
 -- what happens once there is a map
 have key :∀(σ:Sl) (w1:World) (r:Nat),σ 0=.pointer (some ⟨tb,o,none⟩)→σ 1=.int .u32 k→σ 2=v→Blk w1 tb (pre++.map (some r)::post)→y9 (fun b=>ok b∧b<w.heap.size) w1 r m→r≠tb →¬(ok r∧r<w.heap.size)→w.heap.size≤w1.heap.size→SlC (fun b=>ok b∧b<w.heap.size) w1 v l.length (u8s l) →
   ((mv=.map (some r)∧w1=w)∨(mv=.map none∧w.heap.size≤r∧Mod [tb] w w1)) →
   wpC P (.blk [⟨some 15,.mv (.tmp 0),none⟩,⟨some 16,.nilc (.tmp 15),none⟩,⟨some 17,.fad (.tmp 16) 0,none⟩,⟨some 18,.ld (.tmp 17),none⟩,⟨some 19,.mv (.tmp 1),none⟩,⟨some 20,.mv (.tmp 2),none⟩,⟨none,.mapup (.tmp 18) (.tmp 19) (.tmp 20),none⟩])
    (postC [] fun e w'=>e=.returned (.tuple #[]) ∧∃r,Blk w' tb (pre++.map (some r)::post)∧y9 (fun b=>ok b∧b<w.heap.size) w' r (yI m k l)∧r≠tb ∧
     ((mv=.map (some r)∧Mod [tb,r] w w')∨(mv=.map none∧w.heap.size≤r∧Mod [tb] w w'))) σ w1:=by
  intro σ w1 r s0 s1 s2 hb1 hM1 hrt hnr hsz hv1 hcase
  have c1:w1.cell? ⟨tb,o,none⟩=some (.map (some r)):=by rw [hb1.cell o];simp [←ho]
  have hrl:=hM1.lt
  obtain ⟨es,clock,he1,he2,he3,he4⟩:=hM1.ex
  obtain ⟨es',c',p1,p2,p3,p4⟩:=kEI es clock k v he3 he4
  rw [kD]
  refine kC (v:=.pointer (some ⟨tb,o,none⟩)) (congrArg some s0) ?_
  refine kC (v:=.pointer (some ⟨tb,o,none⟩)) (by simp only [RK.val?,ev,updo,upd,if_true]) ?_
  refine kC (v:=.pointer (some ⟨tb,o,none⟩)) (by simp only [RK.val?,ev,updo,upd,if_true,Addr.kK,Nat.add_zero]) ?_
  refine kC (v:=.map (some r)) (by simp only [RK.val?,ev,updo,upd,if_true,c1]) ?_
  refine kC (v:=.int .u32 k) (by simp only [RK.val?,ev,updo,upd];simp [s1]) ?_
  refine kC (v:=v) (by simp only [RK.val?,ev,updo,upd];simp [s2]) ?_
  refine kX ?_
  simp only [RK.run,ev,updo,upd,show (18:Nat)≠20 by decide,show (18:Nat)≠19 by decide,show (19:Nat)≠20 by decide,if_false,if_true,he1]
  refine ⟨he2.keys,?_⟩
  simp only [wpR,postC,rvals,List.mapM_nil,Option.pure_def,tup]
  refine ⟨trivial,r,?_,?_,hrt,?_⟩
  ·exact hb1.mod (Mod.putObj (S:=[r]) (by simp)) (by simp;omega)
  ·rw [p1]
   have hmd:Mod [r] w1 (putObj w1 r (.map es' c')):=Mod.putObj (by simp)
   refine ⟨⟨es',c',kCU hrl,?_,p3,p4⟩,kDI hM1.keys⟩
   rw [p2]
   exact (he2.put hk hv1).mod hmd (fun b hb hx=>by simp only [List.mem_singleton] at hb;subst hb;exact hnr hx) fun _ _ h=>h
  ·rcases hcase with ⟨h1,h2⟩|⟨h1,h2,h3⟩
   ·refine .inl ⟨h1,?_⟩
    rw [h2];exact Mod.putObj (by simp)
   ·refine .inr ⟨h1,h2,?_⟩
    have hmd:Mod [r,tb] w1 (putObj w1 r (kDY es clock .u32 k v)):=Mod.putObj (by simp)
    exact Mod.drop (b:=r) (S:=[tb]) ((h3.mono (by simp)).trans hmd) h2
 generalize postC [] _=Q at key ⊢
 rw [wpC_seq,wpC_seq,kD]
 refine kC (v:=.pointer (some ⟨tb,o,none⟩)) (congrArg some a0) ?_
 refine kC (v:=.pointer (some ⟨tb,o,none⟩)) (by simp only [RK.val?,ev,updo,upd,if_true]) ?_
 refine kC (v:=.pointer (some ⟨tb,o,none⟩)) (by simp only [RK.val?,ev,updo,upd,if_true,Addr.kK,Nat.add_zero]) ?_
 refine kC (v:=mv) (by simp only [RK.val?,ev,updo,upd,if_true,c0]) ?_
 have hv2:SlC (fun b=>ok b∧b<w.heap.size) w v l.length (u8s l):=hv.mod (Mod.refl [] _) (by simp) fun b hb hx=>⟨hx,hb⟩
 rcases hM with ⟨rfl,rfl⟩|⟨r,rfl,hM⟩
 ·refine kC (v:=.bool true) (by simp only [RK.val?,ev,updo,upd,if_true];rfl) ?_
  refine kE ?_
  rw [kI rfl,kD]
  refine kC (v:=.pointer (some ⟨tb,o,none⟩)) (by simp only [RK.val?,ev,updo,upd];simp [a0]) ?_
  refine kX ?_
  simp only [RK.run]
  refine kC (v:=.pointer (some ⟨tb,o,none⟩)) (by simp only [RK.val?,ev,updo,upd];simp) ?_
  refine kC (v:=.pointer (some ⟨tb,o,none⟩)) (by simp only [RK.val?,ev,updo,upd,if_true,Addr.kK,Nat.add_zero]) ?_
  refine kX ?_
  have hma:Mod [] w (w.alloc (.map #[] 0)):=Mod.alloc _ _ _
  have hsz:(w.alloc (.map #[] 0)).heap.size=w.heap.size+1:=by simp
  have hget:(w.alloc (.map #[] 0)).heap[w.heap.size]?=some (.map #[] 0):=heap_alloc_new w _
  have hba:=hb.mod hma (by simp)
  generalize w.alloc (.map #[] 0)=w1 at hma hsz hget hba ⊢
  simp only [RK.run,ev,updo,upd,if_true,show (12:Nat)≠14 by decide,show (12:Nat)≠13 by decide,if_false]
  have ec:(Value.map (some w.heap.size)).cells=#[.map (some w.heap.size)]:=rfl
  rw [ec]
  have hput:Mod [tb] w1 (putCells w1 ⟨tb,o,none⟩ 0 [.map (some w.heap.size)]):=Mod.put (by simp)
  have hp:=hba.put (o:=o) (vs:=[.map (some w.heap.size)]) (by simp only [List.length_append,List.length_cons,List.length_nil];omega)
  rw [show pre++(Value.map none)::post=pre++([Value.map none]++post) by rfl,jY (old:=[Value.map none]) (vs:=[Value.map (some w.heap.size)]) ho rfl] at hp
  refine ⟨rfl,yN hba (by simp only [List.length_append,List.length_cons];omega) rfl,?_⟩
  refine kE ?_
  generalize hσ:upd _ 14 _=σ1
  have s0:σ1 0=.pointer (some ⟨tb,o,none⟩):=by rw [←hσ];simp [upd,a0]
  have s1:σ1 1=.int .u32 k:=by rw [←hσ];simp [upd,a1]
  have s2:σ1 2=v:=by rw [←hσ];simp [upd,a2]
  clear hσ
  refine key σ1 _ w.heap.size s0 s1 s2 hp ?_ (by omega) (fun h=>by omega) (by rw [zX];omega) ?_ (.inr ⟨rfl,Nat.le_refl _,hma.nil.trans hput⟩)
  ·refine ⟨⟨#[],0,?_,.nil,by simp,by simp⟩,by simp⟩
   rw [hput.block _ (by omega) (by simp;omega)];exact hget
  ·exact (hv2.mod hma (by simp) fun _ _ h=>h).mod hput (fun b hb hx=>by simp only [List.mem_singleton] at hb;subst hb;exact htb hx.1) fun _ _ h=>h
 ·refine kC (v:=.bool false) (by simp only [RK.val?,ev,updo,upd,if_true];rfl) ?_
  refine kE ?_
  rw [kG rfl,wpC_skip]
  simp only [kF]
  obtain ⟨q1,q2⟩:=hr0 r rfl
  generalize hσ:updo _ (some 10) _=σ1
  have s0:σ1 0=.pointer (some ⟨tb,o,none⟩):=by rw [←hσ];simp [updo,upd,a0]
  have s1:σ1 1=.int .u32 k:=by rw [←hσ];simp [updo,upd,a1]
  have s2:σ1 2=v:=by rw [←hσ];simp [updo,upd,a2]
  clear hσ
  refine key σ1 _ r s0 s1 s2 hb (hM.mod (Mod.refl [] _) (by simp) (by simp) fun b hb hx=>⟨hx,hb⟩) q2 (fun h=>q1 h.1) (Nat.le_refl _) hv2 (.inl ⟨rfl,rfl⟩)
end
section
variable {P:Program} {l:List DI} {R:World→World→Prop} {Φ:Nat→Value→World→Prop} {N:Nat→World→Prop} {w0:World} {E:Sl→Prop} {n:Nat} {k:RK} {d:Option Nat} {ds:List Nat} {r:List DI} {σ:Sl}
theorem kE1 {v:Value} (hv :∀w,R w0 w→k.val? σ w=some v) (h:walk P l R Φ N w0 E (n+1) r (updo σ d v)):walk P l R Φ N w0 E n (⟨⟨d,k,none⟩,false,ds⟩::r) σ:=by
 simp only [walk,gOk,if_true,Bool.false_eq_true,if_false]
 exact ⟨v,fun w hw _=>hv w hw,h⟩
theorem kKH (hn :∀w,R w0 w→N n w→known l Φ ds σ w→k.run P σ w fun v w'=>R w w'∧Φ n v w' ∧∀j,j≠n→N j w→N j w') (h :∀v,(∃w,Φ n v w)→walk P l R Φ N w0 E (n+1) r (updo σ d v)):walk P l R Φ N w0 E n (⟨⟨d,k,none⟩,true,ds⟩::r) σ:=by
 simp only [walk,gOk,if_true]
 exact ⟨fun w h1 h0 h2=>hn w h1 h0 h2,h⟩
end
section
variable {P:Program} {F:Nat→Nat}
attribute [local simp] gOk updo upd ev RK.val? kL kM Addr.kK qE Value.cells undef
end
def SetC (P:Program) (f:FuncId):Prop :=∀{w:World} {tb k o:Nat} {pre post:List Value} {mv v:Value} {m:List (Nat×List UInt8)} {l:List UInt8} {ok:Nat→Prop},Blk w tb (pre++mv::post)→pre.length=o→TagM ok w mv m→k<4294967296→SlC ok w v l.length (u8s l) →¬ok tb→(∀r,mv=.map (some r) →¬ok r∧r≠tb) →
    Calls P f [.pointer (some ⟨tb,o,none⟩),.int .u32 k,v].toArray w fun e w'=>e=.returned (.tuple #[]) ∧∃r,Blk w' tb (pre++.map (some r)::post)∧y9 (fun b=>ok b∧b<w.heap.size) w' r (yI m k l)∧r≠tb ∧
     ((mv=.map (some r)∧Mod [tb,r] w w')∨(mv=.map none∧w.heap.size≤r∧Mod [tb] w w'))
theorem set_of {P:Program} {F:Nat→Nat} (hm:P.follows .mixedOrders=true) (h:kH P (F tSet)=some (ir_tSet F)):SetC P (F tSet):=fun h1 h2 h3 h4 h5 h6 h7=>kMB hm h h1 h2 h3 h4 h5 h6 h7
def ownM (v:Value):List Nat:=match v with|.map (some r)=>[r]|_=>[]
section
variable {P:Program} {F:Nat→Nat}
attribute [local simp] gOk updo upd ev RK.val? kL kM Addr.kK qE Value.cells undef
end
theorem kOH :∀{a b:List UInt8},u8s a=u8s b→a=b
 | [],[],_=>rfl
 | [],_::_,h=>by simp [u8s] at h
 | _::_,[],h=>by simp [u8s] at h
 | x::a,y::b,h=>by
   simp only [u8s,List.map_cons,List.cons.injEq,Value.int.injEq,true_and] at h
   obtain ⟨h1,h2⟩:=h
   have e:x=y:=by
    apply UInt8.toNat_inj.1;omega
   rw [e,kOH h2]
theorem IsRd.det {S S':List Nat} {w:World} {rb:Nat} {s s':RS} (h:IsRd S w rb s) (h':IsRd S' w rb s'):s=s':=by
 obtain ⟨b,l,c,p1,p2,p3,p4⟩:=h.ex
 obtain ⟨b',l',c',q1,q2,q3,q4⟩:=h'.ex
 have x1:=p1.cell 0
 have y1:=q1.cell 0
 rw [x1] at y1
 have x2:=p1.cell 1
 have y2:=q1.cell 1
 rw [x2] at y2
 have e1:b=b'∧l=l'∧c=c':=by simpa using y1
 have e2:s.bad=s'.bad:=by simpa using y2
 obtain ⟨rfl,rfl,rfl⟩:=e1
 obtain ⟨src,bad,isnil⟩:=s
 obtain ⟨src',bad',isnil'⟩:=s'
 simp only at e2 p3 q3 p2 q2
 have e3:isnil=isnil':=by rw [←p3,←q3]
 have e4:src=src':=by
  have l1:=p2.hlen
  have l2:=q2.hlen
  cases b with
  | none =>
    have:=p2.hnone rfl
    have:=p2.hcap
    have a1:src=[]:=List.eq_nil_of_length_eq_zero (by omega)
    have a2:src'=[]:=List.eq_nil_of_length_eq_zero (by omega)
    rw [a1,a2]
  | some a =>
    have c1:=kJ (p2.hcells a rfl) (n:=l) (by rw [kY];exact l1.symm)
    have c2:=kJ (q2.hcells a rfl) (n:=l) (by rw [kY];exact l2.symm)
    rw [c1] at c2
    exact kOH (Option.some.inj c2)
 rw [e2,e3,e4]
structure KtA (w0 w:World) (rb b0:Nat) (pre:List Value) (gs:List GV) (css:List (List Value)) (mv:Value) (m:List (Nat×List UInt8)):Prop where
 blk:Blk w b0 (pre++(css.flatten++[mv]))
 fld:RepL (rb::b0::ownM mv) w gs css
 tag:TagM (fun b=>b ∉ rb::b0::ownM mv) w mv m
 nr :∀r,mv=.map (some r)→w0.heap.size≤r∧r≠rb∧r≠b0
 mod:Mod [rb,b0] w0 w
 lb:b0<w0.heap.size
 lr:rb<w0.heap.size
 ne:rb≠b0
theorem kA4 {mv:Value} {b:Nat} (h:b∈ownM mv):mv=.map (some b):=by
 cases mv with
 | map q =>
   cases q with
   | none=>simp [ownM] at h
   | some r=>simp only [ownM,List.mem_singleton] at h;rw [h]
 | _=>simp [ownM] at h
theorem KtA.own {w0 w:World} {rb b0:Nat} {pre:List Value} {gs:List GV} {css:List (List Value)} {mv:Value} {m:List (Nat×List UInt8)} (h:KtA w0 w rb b0 pre gs css mv m) {b:Nat} (hb:b∈ownM mv):w0.heap.size≤b∧b≠rb∧b≠b0:=h.nr b (kA4 hb)
theorem KtA.rd {w0 w w':World} {rb b0:Nat} {pre:List Value} {gs:List GV} {css:List (List Value)} {mv:Value} {m:List (Nat×List UInt8)} (h:KtA w0 w rb b0 pre gs css mv m) (hm:Mod [rb] w w'):KtA w0 w' rb b0 pre gs css mv m:=by
 refine ⟨h.blk.mod hm (by simpa using h.ne.symm),h.fld.mod hm (by simp),?_,h.nr,h.mod.trans (hm.mono (by simp)),h.lb,h.lr,h.ne⟩
 rcases h.tag with ⟨e1,e2⟩|⟨r,e1,e2⟩
 ·exact .inl ⟨e1,e2⟩
 ·exact .inr ⟨r,e1,e2.mod hm (by simpa using (h.nr r e1).2.1) (by simp) fun _ _ h=>h⟩
theorem KtA.same {w0 w w':World} {rb b0:Nat} {pre:List Value} {gs:List GV} {css:List (List Value)} {mv:Value} {m:List (Nat×List UInt8)} (h:KtA w0 w rb b0 pre gs css mv m) (hm:Mod [] w w'):KtA w0 w' rb b0 pre gs css mv m:=h.rd hm.nil
def kOI (P:Program) (f:FuncId):Prop :=∀(S:List Nat) (w:World) (rb:Nat) (s:RS) (l:Int),IsRd S w rb s →
 Calls P f [.pointer (some ⟨rb,0,none⟩),.int .i64 l].toArray w fun e w' =>∃v,e=.returned v∧OctX (rb::S) w' v (qG l s).1∧IsRd S w' rb (qG l s).2∧Mod [rb] w w'
section
variable {P:Program}
attribute [local simp] gOk updo upd ev RK.val? kL kM Addr.kK qE Value.cells undef
theorem KtA.set {set:FuncId} (hset:SetC P set) {w0 w:World} {rb b0 k:Nat} {pre:List Value} {gs:List GV} {css:List (List Value)} {mv v:Value} {m:List (Nat×List UInt8)} {bts:List UInt8} {s:RS} (h:KtA w0 w rb b0 pre gs css mv m) (hr:IsRd (b0::ownM mv) w rb s) (hk:k<4294967296)
  (hv:SlC (fun b=>b ∉ rb::b0::ownM mv) w v bts.length (u8s bts)) :
  Calls P set [.pointer (some ⟨b0,pre.length+css.flatten.length,none⟩),.int .u32 k,v].toArray w fun e w'=>e=.returned (.tuple #[])∧Mod (b0::ownM mv) w w' ∧∃mv',(mv'=mv∨mv=.map none)∧KtA w0 w' rb b0 pre gs css mv' (yI m k bts)∧IsRd (b0::ownM mv') w' rb s:=by
 have hb:Blk w b0 ((pre++css.flatten)++mv::[]):=by simpa [List.append_assoc] using h.blk
 have hS:=h.mod.size
 refine (hset hb (by simp) h.tag hk hv (by simp) fun r hr=>⟨by subst hr;simp [ownM],(h.nr r hr).2.2⟩).mono ?_
 rintro e w' ⟨rfl,r,h1,h2,h3,h4⟩
 have h1:Blk w' b0 (pre++(css.flatten++[.map (some r)])):=by simpa [List.append_assoc] using h1
 rcases h4 with ⟨e1,h4⟩|⟨e1,h4,h5⟩
 ·subst e1
  have hr0:=h.nr r rfl
  refine ⟨rfl,h4,_,.inl rfl,⟨h1,h.fld.mod h4 (by simp [ownM]),.inr ⟨r,rfl,h2.mod (Mod.refl [] _) (by simp) (by simp) fun b _ hb=>hb.1⟩,h.nr,?_,h.lb,h.lr,h.ne⟩,?_⟩
  ·refine Mod.drop (b:=r) (S:=[rb,b0]) ?_ hr0.1
   exact (h.mod.mono (by simp)).trans (h4.mono (by simp))
  ·exact hr.mod h4 (by simp [h.ne,hr0.2.1.symm]) (by simp [ownM])
 ·subst e1
  have hb0:=h.blk.lt
  have hlr:=Nat.lt_of_lt_of_le h.lr hS
  have hlb:=h.lb
  refine ⟨rfl,by simpa [ownM] using h5,_,.inr rfl,⟨h1,h.fld.fresh h5 (by simp) (fun x hx=>?_),.inr ⟨r,rfl,h2.mod (Mod.refl [] _) (by simp) (by simp) fun b _ hb=>?_⟩,fun r' e=>by cases e;exact ⟨by omega,by omega,h3⟩,h.mod.trans (h5.mono (by simp)),h.lb,h.lr,h.ne⟩,?_⟩
  ·simp only [ownM,List.mem_cons,List.not_mem_nil,or_false] at hx ⊢
   rcases hx with rfl|rfl|rfl
   ·exact .inl (.inl rfl)
   ·exact .inl (.inr rfl)
   ·exact .inr h4
  ·obtain ⟨hb1,hb2⟩:=hb
   simp only [ownM,List.mem_cons,List.not_mem_nil,or_false,not_or] at hb1 ⊢
   exact ⟨hb1.1,hb1.2,by omega⟩
  ·obtain ⟨base,len,cap,p1,p2,p3,p4⟩:=hr.ex
   refine ⟨⟨base,len,cap,p1.mod h5 (by simpa using h.ne),p2.mod h5 (fun a ha hc=>(p4 a ha).2.1 (by simpa [ownM] using hc)),p3,fun a ha=>⟨(p4 a ha).1,?_,Nat.lt_of_lt_of_le (p4 a ha).2.2 h5.size⟩⟩,hr.short⟩
   have q1:=(p4 a ha).2.1
   have q2:=(p4 a ha).2.2
   simp only [ownM,List.mem_cons,List.not_mem_nil,or_false,not_or] at q1 ⊢
   exact ⟨q1,by omega⟩
theorem unk_wp {uvr span set:FuncId} (huv:RdC P uvr fun s=>(.int .u32 (rdUv s).1,(rdUv s).2)) (hsp:kOI P span) (hset:SetC P set) {w0 w:World} {sp eb key T rb b0 k z:Nat} {pre:List Value} {gs:List GV} {css:List (List Value)} {mv:Value} {m:List (Nat×List UInt8)} {bts:List UInt8} {s1 s2 s3:RS} {σ:Sl} {Q:Exit→Sl→World→Prop}
  (hA:KtA w0 w rb b0 pre gs css mv m) (hR:IsRd (b0::ownM mv) w rb s1) (hk:k<4294967296) (h1:rdUv s1=(z,s2)) (h2:qG z s2=(some bts,s3)) (hl1:s2.src.length<s1.src.length) (hl2:s3.src.length≤s2.src.length)
  (hb:σ eb=.pointer (some ⟨rb,0,none⟩)) (hs:σ sp=.pointer (some ⟨b0,0,none⟩)) (hky:σ key=.int .u32 (k:Nat)) (l1:eb<T) (l2:sp<T) (l3:key<T)
  (hQ :∀σ' w' mv',(∀j,j<T→σ' j=σ j)→KtA w0 w' rb b0 pre gs css mv' (yI m k bts)→IsRd (b0::ownM mv') w' rb s3→Q .normal σ' w') :
  wpC P (.drw [nd' ⟨some T,.mv (.tmp sp),none⟩,nd' ⟨some (T+1),.nilc (.tmp T),none⟩,nd' ⟨some (T+2),.fad (.tmp (T+1)) (pre.length+css.flatten.length),none⟩,nd' ⟨some (T+3),.mv (.tmp key),none⟩,
   ⟨⟨some (T+4),.call uvr [.tmp eb],none⟩,true,[]⟩,⟨⟨some (T+5),.conv .i64 (.tmp (T+4)),none⟩,false,[4]⟩,⟨⟨some (T+6),.call span [.tmp eb,.tmp (T+5)],none⟩,true,[4]⟩,⟨⟨some (T+7),.call set [.tmp (T+2),.tmp (T+3),.tmp (T+6)],none⟩,true,[4,6]⟩] []) Q σ w:=by
 show wpD P _ [] _ w.drew _
 have hmd:Mod [] w w.drew:=Mod.drew _ _
 have hA:=hA.same hmd
 have hR:IsRd (b0::ownM mv) w.drew rb s1:=hR.mod hmd (by simp) (by simp)
 generalize w.drew=w at hA hR
 have hz:=xQ s1
 rw [h1] at hz
 simp only at hz
 have n12 :∀{S S' w},IsRd S w rb s1→IsRd S' w rb s2→False:=fun a b=>by have:=a.det b;rw [this] at hl1;omega
 have n13 :∀{S S' w},IsRd S w rb s1→IsRd S' w rb s3→False:=fun a b=>by have:=a.det b;rw [this] at hl1;omega
 have hrb:rb ∉ b0::ownM mv:=by
  simp only [List.mem_cons,not_or]
  exact ⟨hA.ne,fun hc=>(hA.own hc).2.1 rfl⟩
 have hrd :∀{s w w'},IsRd (b0::ownM mv) w rb s→Mod (b0::ownM mv) w w'→IsRd (b0::ownM mv) w' rb s:=fun h hm=>h.mod hm hrb (fun _ h=>h)
 refine ⟨fun w w'=>Mod (rb::b0::ownM mv) w w'∧((IsRd (b0::ownM mv) w rb s2∨IsRd (b0::ownM mv) w rb s3)→(IsRd (b0::ownM mv) w' rb s2∨IsRd (b0::ownM mv) w' rb s3))∧(IsRd (b0::ownM mv) w rb s3→IsRd (b0::ownM mv) w' rb s3) ∧
   ((∃mv',(mv'=mv∨mv=.map none)∧KtA w0 w rb b0 pre gs css mv' (yI m k bts)∧IsRd (b0::ownM mv') w rb s3)→(∃mv',(mv'=mv∨mv=.map none)∧KtA w0 w' rb b0 pre gs css mv' (yI m k bts)∧IsRd (b0::ownM mv') w' rb s3)),
  fun j v w=>match j with
   | 4=>v=.int .u32 (z:Nat)∧(IsRd (b0::ownM mv) w rb s2∨IsRd (b0::ownM mv) w rb s3)
   | 6=>IsRd (b0::ownM mv) w rb s3∧SlC (fun b=>b ∉ rb::b0::ownM mv) w v bts.length (u8s bts)
   | 7 =>∃mv',(mv'=mv∨mv=.map none)∧KtA w0 w rb b0 pre gs css mv' (yI m k bts)∧IsRd (b0::ownM mv') w rb s3
   | _=>True,
  fun j w=>match j with
   | 4=>IsRd (b0::ownM mv) w rb s1
   | 6=>IsRd (b0::ownM mv) w rb s1∨IsRd (b0::ownM mv) w rb s2
   | 7=>KtA w0 w rb b0 pre gs css mv m
   | _=>True,
  fun w=>⟨Mod.refl _ _,id,id,id⟩,fun _ _ _ a b=>⟨a.1.trans b.1,fun h=>b.2.1 (a.2.1 h),fun h=>b.2.2.1 (a.2.2.1 h),fun h=>b.2.2.2 (a.2.2.2 h)⟩,?_,?_,?_⟩
 ·intro j v w w' h hm
  split at h
  ·exact ⟨h.1,hm.2.1 h.2⟩
  ·exact ⟨hm.2.2.1 h.1,h.2.mod hm.1 (fun b hb hx=>hx hb) fun _ _ h=>h⟩
  ·exact hm.2.2.2 h
  ·trivial
 ·intro j
  split
  ·exact hR
  ·exact .inl hR
  ·exact hA
  ·trivial
 refine kE1 (v:=.pointer (some ⟨b0,0,none⟩)) (fun w1 h1=>by simp [hs]) ?_
 refine kE1 (v:=.pointer (some ⟨b0,0,none⟩)) (fun w1 h1=>by simp) ?_
 refine kE1 (v:=.pointer (some ⟨b0,pre.length+css.flatten.length,none⟩)) (fun w1 h1=>by simp) ?_
 refine kE1 (v:=.int .u32 (k:Nat)) (fun w1 h1=>by simp [hky,show key≠T by omega,show key≠T+1 by omega,show key≠T+2 by omega]) ?_
 refine kKH (fun w1 hRw hN _=>?_) ?_
 ·have e1:([Operand.tmp eb].map (ev (updo (updo (updo (updo σ (some T) (.pointer (some ⟨b0,0,none⟩))) (some (T+1)) (.pointer (some ⟨b0,0,none⟩))) (some (T+2)) (.pointer (some ⟨b0,pre.length+css.flatten.length,none⟩))) (some (T+3)) (.int .u32 (k:Nat)))))=[.pointer (some ⟨rb,0,none⟩)]:=by
   simp [hb,show eb≠T by omega,show eb≠T+1 by omega,show eb≠T+2 by omega,show eb≠T+3 by omega]
  simp only [RK.run,e1]
  have hN:IsRd (b0::ownM mv) w1 rb s1:=hN
  refine (huv (b0::ownM mv) w1 rb s1 hN hrb).mono ?_
  rintro e w' ⟨rfl,hr',hm'⟩
  simp only [h1] at hr' ⊢
  refine ⟨_,rfl,⟨hm'.mono (by simp),fun _=>.inl hr',fun h3=>(n13 hN h3).elim,fun ⟨mv',_,_,h3⟩=>(n13 hN h3).elim⟩,⟨rfl,.inl hr'⟩,fun j hj hNj=>?_⟩
  split at hNj
  ·exact absurd rfl hj
  ·exact .inr hr'
  ·exact hNj.rd hm'
  ·trivial
 rintro v4 ⟨_,rfl,-⟩
 refine kE1 (v:=.int .i64 (z:Nat)) (fun w1 h1=>by
  simp only [RK.val?,ev,updo,upd,if_true]
  rw [xR (by omega)]) ?_
 refine kKH (fun w1 hRw hN hkn=>?_) ?_
 ·obtain ⟨-,k4⟩:=qY (j:=4) (t:=T+4) hkn (by simp) rfl rfl rfl rfl
  have hN:IsRd (b0::ownM mv) w1 rb s1∨IsRd (b0::ownM mv) w1 rb s2:=hN
  have hr2:IsRd (b0::ownM mv) w1 rb s2:=by
   rcases hN with h|h
   ·rcases k4 with h'|h'
    ·exact (n12 h h').elim
    ·exact (n13 h h').elim
   ·exact h
  have e1:([Operand.tmp eb,.tmp (T+5)].map (ev (updo (updo (updo (updo (updo (updo σ (some T) (.pointer (some ⟨b0,0,none⟩))) (some (T+1)) (.pointer (some ⟨b0,0,none⟩))) (some (T+2)) (.pointer (some ⟨b0,pre.length+css.flatten.length,none⟩))) (some (T+3)) (.int .u32 (k:Nat))) (some (T+4)) (.int .u32 (z:Nat))) (some (T+5)) (.int .i64 (z:Nat)))))=[.pointer (some ⟨rb,0,none⟩),.int .i64 (z:Nat)]:=by
   simp [hb,show eb≠T by omega,show eb≠T+1 by omega,show eb≠T+2 by omega,show eb≠T+3 by omega,show eb≠T+4 by omega,show eb≠T+5 by omega]
  simp only [RK.run,e1]
  by_cases hB :∃mv',(mv'=mv∨mv=.map none)∧KtA w0 w1 rb b0 pre gs css mv' (yI m k bts)∧IsRd (b0::ownM mv') w1 rb s3
  ·obtain ⟨mv',q1,q2,q3⟩:=hB
   have e23:s2=s3:=hr2.det q3
   have hsub :∀x∈b0::ownM mv,x∈b0::ownM mv':=fun x hx=>by
    rcases q1 with e|e
    ·rw [e];exact hx
    ·rw [e] at hx;simp only [ownM,List.mem_singleton] at hx;simp [hx]
   refine (hsp (b0::ownM mv') w1 rb s2 z (by rw [e23];exact q3)).mono ?_
   rintro e w' ⟨v,rfl,ho,hr',hm'⟩
   rw [h2] at ho hr'
   simp only at ho hr'
   have hr3:IsRd (b0::ownM mv) w' rb s3:=hr'.kM9 hsub
   refine ⟨_,rfl,⟨hm'.mono (by simp),fun _=>.inr hr3,fun _=>hr3,fun _=>⟨mv',q1,q2.rd hm',hr'⟩⟩,⟨hr3,?_⟩,fun j hj hNj=>?_⟩
   ·exact ho.slcN.mod (Mod.refl [] _) (by simp) fun b _ hb hx=>hb (by
     rcases List.mem_cons.1 hx with e|hx
     ·simp [e]
     ·exact List.mem_cons_of_mem _ (hsub b hx))
   ·split at hNj
    ·exact (n12 hNj hr2).elim
    ·exact absurd rfl hj
    ·exact hNj.rd hm'
    ·trivial
  ·refine (hsp (b0::ownM mv) w1 rb s2 z hr2).mono ?_
   rintro e w' ⟨v,rfl,ho,hr',hm'⟩
   rw [h2] at ho hr'
   simp only at ho hr'
   refine ⟨_,rfl,⟨hm'.mono (by simp),fun _=>.inr hr',fun _=>hr',fun h=>(hB h).elim⟩,⟨hr',ho.slcN⟩,fun j hj hNj=>?_⟩
   split at hNj
   ·exact (n12 hNj hr2).elim
   ·exact absurd rfl hj
   ·exact hNj.rd hm'
   ·trivial
 rintro v6 -
 refine kKH (fun w1 hRw hN hkn=>?_) ?_
 ·obtain ⟨k6,k6'⟩:=qY (j:=6) (t:=T+6) hkn (by simp) rfl rfl rfl rfl
  have hN:KtA w0 w1 rb b0 pre gs css mv m:=hN
  have k6':SlC (fun b=>b ∉ rb::b0::ownM mv) w1 v6 bts.length (u8s bts):=by simpa using k6'
  have e1:([Operand.tmp (T+2),.tmp (T+3),.tmp (T+6)].map (ev (updo (updo (updo (updo (updo (updo (updo σ (some T) (.pointer (some ⟨b0,0,none⟩))) (some (T+1)) (.pointer (some ⟨b0,0,none⟩))) (some (T+2)) (.pointer (some ⟨b0,pre.length+css.flatten.length,none⟩))) (some (T+3)) (.int .u32 (k:Nat))) (some (T+4)) (.int .u32 (z:Nat))) (some (T+5)) (.int .i64 (z:Nat))) (some (T+6)) v6)))=[.pointer (some ⟨b0,pre.length+css.flatten.length,none⟩),.int .u32 (k:Nat),v6]:=by
   simp
  simp only [RK.run,e1]
  refine (hN.set hset k6 hk k6').mono ?_
  rintro e w' ⟨rfl,hm',mv',q1,q2,q3⟩
  refine ⟨_,rfl,⟨hm'.mono (fun x hx=>List.mem_cons_of_mem _ hx),fun h=>h.imp (fun h=>hrd h hm') (fun h=>hrd h hm'),fun h=>hrd h hm',fun _=>⟨mv',q1,q2,q3⟩⟩,⟨mv',q1,q2,q3⟩,fun j hj hNj=>?_⟩
  split at hNj
  ·exact hrd hNj hm'
  ·exact hNj.imp (fun h=>hrd h hm') (fun h=>hrd h hm')
  ·exact absurd rfl hj
  ·trivial
 rintro v7 -
 intro w5 hm5 hkn
 obtain ⟨mv',-,q2,q3⟩:=qY (j:=7) (t:=T+7) hkn (by simp) rfl rfl rfl rfl
 refine kP (hQ _ w5 mv' (fun j hj=>?_) q2 q3)
 simp only [updo,upd,show j≠T by omega,show j≠T+1 by omega,show j≠T+2 by omega,show j≠T+3 by omega,show j≠T+4 by omega,show j≠T+5 by omega,show j≠T+6 by omega,show j≠T+7 by omega,if_false]
end
end Go.Msk
