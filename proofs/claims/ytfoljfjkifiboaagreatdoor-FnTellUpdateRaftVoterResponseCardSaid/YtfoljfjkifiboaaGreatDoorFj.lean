/- A small language of resolved operations, and what the generic and the generated functions do in it (part 10). -/
import Derived.Test.YtfoljfjkifiboaaGreatDoorFi
namespace Go.Msk
open Go.RowKit
set_option maxRecDepth 100000
section
variable {P:Program} {F:Nat→Nat}
attribute [local simp] bnd wpC wpR RI.wp gOk RK.run kF kR updo upd ev qE postC rvals RV.val zR kL
theorem kGR {σ:Sl} {w:World} {x:Operand} {v:Value} {l:List UInt8} {ok:Nat→Prop} {K:Value→World→Prop} (hx:ev σ x=v) (hv:SlC ok w v l.length (u8s l)) (hl:l.length≤2147483647)
  (hK :∀v' w',SlC (fun b=>w.heap.size≤b) w' v' l.length (u8s l)→Mod [] w w'→K v' w'):(RK.append (.const (.slice none 0 0)) x 1 1).run P σ w K:=by
 obtain ⟨base,cap,rfl,hcap,hb0,hb⟩:=hv
 have hsrc:qI w 1 (.slice base l.length cap)=some (l.length,u8s l):=by
  cases base with
  | none=>have:=hb0 rfl;have:l=[]:=List.length_eq_zero_iff.1 (by omega);subst this;simp [qI,u8s]
  | some a =>
    by_cases hc0:0<cap
    ·obtain ⟨h1,h2,h3⟩:=hb a rfl hc0
     simp only [qI,Nat.mul_one]
     rw [kJ h3 (kY l)];rfl
    ·have:l=[]:=List.length_eq_zero_iff.1 (by omega)
     subst this;simp [qI,kV,u8s]
 have e1:ev σ (.const (.slice none 0 0))=.slice none 0 0:=rfl
 simp only [RK.run,e1,hx,hsrc,qV]
 by_cases h0:l.length=0
 ·have:l=[]:=List.length_eq_zero_iff.1 h0
  subst this
  simp only [List.length_nil,Nat.add_zero,Nat.le_refl,if_true]
  exact hK _ _ SlC.nil (Mod.refl _ _)
 ·rw [if_neg (by omega)]
  refine ⟨by omega,by omega,?_⟩
  intro T cap' rest hc hr
  refine hK _ _ ⟨some ⟨w.heap.size,0,none⟩,cap',by simp,by simpa using hc,fun h=>by simp at h,fun a ha _=>?_⟩ ((Mod.drew _ _).trans (Mod.alloc _ _ _))
  simp only [Option.some.injEq] at ha;subst ha
  have hblk:=Blk.new w.drew (u8s l++rest) T
  refine ⟨Nat.le_refl _,hblk.lt,?_⟩
  have:=hblk.cells.take (u8s l).length
  simpa using this
theorem OctX.slc {O:List Nat} {w:World} {v:Value} {o:Option (List UInt8)} (h:OctX O w v o):SlC (fun _=>True) w v (o.getD []).length (u8s (o.getD [])) ∧∃b n c,v=.slice b n c∧b.isNone=o.isNone:=by
 obtain ⟨h1,h2⟩:=h
 cases o with
 | none=>simp only [kMW] at h1;subst h1;exact ⟨SlC.nil,_,_,_,rfl,rfl⟩
 | some l =>
 obtain ⟨a,n,c,rfl,hb⟩:=h1
 refine ⟨⟨some a,c,by rw [hb.hlen];rfl,by have:=hb.hcap;have:=hb.hlen;simp only [Option.getD_some];omega,fun h=>by simp at h,fun a' e _=>?_⟩,_,_,_,rfl,rfl⟩
 simp only [Option.some.injEq] at e;subst e
 exact ⟨trivial,(h2 a n c rfl).2,hb.hcells a rfl⟩
theorem kEL {σ:Sl} {w w0:World} {t b2:Nat} {cs:List Value} {tr:TR} (h2:σ 2=.pointer (some ⟨b2,0,none⟩)) (hb:Blk w b2 tzero) (ht:σ t=.agg cs.toArray) (hrep:RepT (fun b=>w0.heap.size≤b∧b≠b2) w tr cs)
 (hm:Mod [b2] w0 w) (hw0:w0.heap.size≤b2):wpR P [⟨none,.st (.tmp 2) 5 (.tmp t),none⟩] σ w (fun σ' w'=>postC [.cells 2 5] (fun e w' =>∃cs,e=.returned (.agg cs.toArray)∧RepT (fun b=>w0.heap.size≤b) w' tr cs∧Mod [] w0 w') .ret σ' w'):=by
 have h5:=hrep.five
 have hput:Mod [b2] w (putCells w ⟨b2,0,none⟩ 0 cs):=Mod.put (by simp)
 have hp:=hb.put (o:=0) (vs:=cs) (by simp [h5,tzero])
 rw [jW (by rw [h5];rfl)] at hp
 have ec:(Value.agg cs.toArray).cells=cs.toArray:=rfl
 simp only [wpR,RI.wp,gOk,if_true,RK.run,ev,h2,ht,ec,updo]
 refine ⟨by simp [h5],qL hb (by simp [h5,tzero]) (by simpa using hrep.oneCell),?_⟩
 simp only [postC,rvals,List.mapM_cons,List.mapM_nil,RV.val,h2,kJ hp.cells h5,Option.bind_eq_bind,Option.map_some,Option.bind_some,Option.pure_def,zR]
 exact ⟨cs,rfl,hrep.mod hput (fun b hb hx=>by simp only [List.mem_singleton] at hb;exact hx.2 hb) (fun b _ hb=>hb.1),Mod.drop (b:=b2) (S:=[]) (hm.trans hput) hw0⟩
theorem kGS (hm:P.follows .mixedOrders=true) (h:kH P (F j6)=some (ir_iOctetsTree F)):(TK.oct (F j6)).Ok P:=by
 intro O w g v hg hr
 obtain ⟨o,rfl,hl⟩:=hg
 have ho:OctX O w v o:=by cases hr with|byt h=>exact h
 obtain ⟨hs,b,n,c,rfl,hbn⟩:=ho.slc
 refine kT h hm (by simp) ?_
 rw [wpC_seq,kD]
 refine kX ?_
 intro T
 have hb2:Blk (w.alloc (.cells tzero.toArray T)) w.heap.size tzero:=Blk.new w tzero T
 have hm1:Mod [] w (w.alloc (.cells tzero.toArray T)):=Mod.alloc _ _ _
 have hs1:=hs.mod (ok':=fun _=>True) hm1 (by simp) fun _ _ h=>h
 have hz:([Value.int .i64 0,.slice none 0 0,.bool false,.slice none 0 0,.slice none 0 0]:List Value)=tzero:=rfl
 rw [hz]
 have hsz:(w.alloc (.cells tzero.toArray T)).heap.size=w.heap.size+1:=by simp
 generalize w.alloc (.cells tzero.toArray T)=w1 at hb2 hm1 hs1 hsz ⊢
 have a0:qE [.slice b n c] 0=.slice b n c:=rfl
 generalize qE [.slice b n c]=σ0 at a0 ⊢
 show wpC P (.seq _ _) _ _ _
 rw [wpC_seq,kD]
 refine kC (v:=.slice b n c) (by simp [RK.val?,a0]) ?_
 refine kX ?_
 refine kGR (v:=.slice b n c) (by simp) hs1 (by cases o with|none=>simp|some l=>exact hl l rfl) fun v' w2 hv' hm2=>?_
 have ht:GV.told (.byt o)=.mk 0 (o.getD []) o.isNone [] []:=by cases o<;>rfl
 rw [ht]
 obtain ⟨b',c',rfl,-⟩:=id hv'
 refine kC (v:=.slice b n c) (by simp [RK.val?,a0]) ?_
 refine kC (v:=.bool o.isNone) (by simp [RK.val?,hbn]) ?_
 refine kC (v:=.agg [.int .i64 0,.slice b' (o.getD []).length c',.bool o.isNone,.slice none 0 0,.slice none 0 0].toArray) (by simp [RK.val?,zW,tzero,splice,Value.cells]) ?_
 refine kEL (by simp) (hb2.mod hm2 (by simp)) (by simp) (RepT.oct _ (hv'.mod (Mod.refl [] _) (by simp) fun x _ hx=>⟨by omega,by omega⟩)) ((hm1.trans hm2).nil) (Nat.le_refl _)
theorem kJS (hm:P.follows .mixedOrders=true) (h:kH P (F xI)=some (ir_iTextTree F)):(TK.txt (F xI)).Ok P:=by
 intro O w g v hg hr
 obtain ⟨o,rfl⟩:=hg
 refine kT h hm (by simp) ?_
 rw [wpC_seq,kD]
 refine kX ?_
 intro T
 have hb2:Blk (w.alloc (.cells tzero.toArray T)) w.heap.size tzero:=Blk.new w tzero T
 have hm1:Mod [] w (w.alloc (.cells tzero.toArray T)):=Mod.alloc _ _ _
 have hr1:=hr.mod hm1 (by simp)
 have hz:([Value.int .i64 0,.slice none 0 0,.bool false,.slice none 0 0,.slice none 0 0]:List Value)=tzero:=rfl
 rw [hz]
 have hsz:(w.alloc (.cells tzero.toArray T)).heap.size=w.heap.size+1:=by simp
 generalize w.alloc (.cells tzero.toArray T)=w1 at hb2 hm1 hr1 hsz ⊢
 have a0:qE [v] 0=v:=rfl
 generalize qE [v]=σ0 at a0 ⊢
 show wpC P (.seq (.seq _ _) _) _ _ _
 rw [wpC_seq,wpC_seq,kD]
 refine kC (v:=v) (by simp [RK.val?,a0]) ?_
 cases o with
 | none =>
   have hv:v=.pointer none:=by cases hr with|nstr0=>rfl
   subst hv
   refine kC (v:=.bool true) (by simp [RK.val?]) ?_
   simp only [wpR,kF]
   rw [kI (by simp),wpC_seq,kD]
   refine kC (v:=.agg [.int .i64 0,.slice none 0 0,.bool true,.slice none 0 0,.slice none 0 0].toArray) (by simp [RK.val?,zW,tzero,splice,Value.cells]) ?_
   exact kEL (by simp) hb2 (by simp) (RepT.num 0 true) hm1.nil (Nat.le_refl _)
 | some l =>
   obtain ⟨b,rfl,hcell⟩ :∃b,v=.pointer (some ⟨b,0,none⟩)∧w1.cell? ⟨b,0,none⟩=some (str l):=by
    cases hr1 with|nstr1 h1 h2=>exact ⟨_,rfl,h2⟩
   refine kC (v:=.bool false) (by simp [RK.val?]) ?_
   simp only [wpR,kF]
   rw [kG (by simp),wpC_skip]
   simp only [kF]
   rw [wpC_seq,kD]
   refine kC (v:=.pointer (some ⟨b,0,none⟩)) (by simp [RK.val?,a0]) ?_
   refine kC (v:=.pointer (some ⟨b,0,none⟩)) (by simp [RK.val?]) ?_
   refine kC (v:=str l) (by simp [RK.val?,hcell]) ?_
   refine kX ?_
   simp only [RK.run,ev,updo,upd_same,str]
   intro T2 cap rest hcap hrest
   have hsz2:(⟨l.toArray⟩:ByteArray).size=l.length:=by simp [ByteArray.size]
   rw [hsz2] at hcap hrest ⊢
   have hblk:=Blk.new' w1.drew (u8s l++rest) T2 (cap,cap+1) (by simp only [List.length_append,kY];omega)
   have hm2:Mod [] w1 (w1.drew.alloc (.cells (u8s l++rest).toArray T2 (cap,cap+1))):=(Mod.drew _ _).trans (Mod.alloc _ _ _)
   have hs:SlC (fun x=>w.heap.size≤x∧x≠w.heap.size) (w1.drew.alloc (.cells (u8s l++rest).toArray T2 (cap,cap+1))) (.slice (some ⟨w1.heap.size,0,none⟩) l.length cap) l.length (u8s l):=by
    refine ⟨some ⟨w1.heap.size,0,none⟩,cap,rfl,hcap,fun h=>by simp at h,fun a ha _=>?_⟩
    simp only [Option.some.injEq] at ha;subst ha
    refine ⟨⟨show w.heap.size≤w1.heap.size by omega,show w1.heap.size≠w.heap.size by omega⟩,hblk.lt,?_⟩
    have:=hblk.cells.take (u8s l).length
    simpa using this
   refine kC (v:=.agg [.int .i64 0,.slice (some ⟨w1.heap.size,0,none⟩) l.length cap,.bool false,.slice none 0 0,.slice none 0 0].toArray) (by simp [RK.val?,zW,tzero,splice,Value.cells]) ?_
   exact kEL (by simp) (hb2.mod hm2 (by simp)) (by simp) (RepT.oct _ hs) ((hm1.trans hm2).nil) (Nat.le_refl _)
theorem kIC (hm:P.follows .mixedOrders=true) (h:kH P (F kB9)=some (ir_lVersion F)) {w:World} {n m:Int} (hn:0≤n∧n<256) (hm0:0≤m∧m<32768) :
  Calls P (F kB9) [.int .u8 n,.int .i64 m].toArray w fun e w'=>e=.returned (.int .i64 (n%(m+1)))∧w'=w:=by
 refine kT h hm (by simp) ?_
 have e1:IntKind.i64.wrap n=n:=by simp [IntKind.wrap,IntKind.bits,IntKind.signed];omega
 have e2:IntKind.i64.wrap (m+1)=m+1:=by simp [IntKind.wrap,IntKind.bits,IntKind.signed];omega
 have e3:IntKind.i64.wrap (n.tmod (m+1))=n%(m+1):=by
  have h1:n.tmod (m+1)=n%(m+1):=Int.tmod_eq_emod_of_nonneg hn.1
  have h2:0≤n%(m+1):=Int.emod_nonneg _ (by omega)
  have h3:n%(m+1)<m+1:=Int.emod_lt_of_pos _ (by omega)
  rw [h1]
  simp only [IntKind.wrap,IntKind.bits,IntKind.signed];simp;omega
 have e4:n.tmod (m+1)=n%(m+1):=Int.tmod_eq_emod_of_nonneg hn.1
 have e0:m+1≠0:=by omega
 simp [e1,e2,kM,e0,e4]
end
theorem SlC.get {ok:Nat→Prop} {w:World} {v:Value} {l:List UInt8} (h:SlC ok w v l.length (u8s l)) {i:Nat} (hi:i<l.length) :
 ∃a c b,v=.slice (some a) l.length c∧l[i]?=some b∧w.cell? (a.add (i*1))=some (.int .u8 b.toNat):=by
 obtain ⟨base,cap,rfl,h2,h3,h4⟩:=h
 cases base with
 | none=>have:=h3 rfl;omega
 | some a =>
 obtain ⟨-,-,hc⟩:=h4 a rfl (by omega)
 have hb:l[i]?=some l[i]:=List.getElem?_eq_getElem hi
 exact ⟨a,cap,l[i],rfl,hb,by rw [Nat.mul_one];exact hc.nth (by rw [kMV,hb];rfl)⟩
theorem SlC.shape {ok:Nat→Prop} {w:World} {v:Value} {n:Nat} {cs:List Value} (h:SlC ok w v n cs) :∃b c,v=.slice b n c:=by
 obtain ⟨base,cap,rfl,-⟩:=h;exact ⟨_,_,rfl⟩
theorem u8_ne (a b:UInt8):((a.toNat:Int) != b.toNat)=(a != b):=by
 by_cases h:a=b
 ·subst h;simp
 ·have h1:(a != b)=true:=by simpa using h
  have h2:((a.toNat:Int) != b.toNat)=true:=by
   simp only [bne_iff_ne,ne_eq,Int.natCast_inj]
   exact fun e=>h (UInt8.toNat_inj.1 e)
  rw [h1,h2]
section
variable {P:Program} {F:Nat→Nat}
attribute [local simp] bnd wpC wpR RI.wp gOk RK.run kF kR updo upd ev qE postC rvals RV.val zR kL
theorem kAM (hm:P.follows .mixedOrders=true) (h:kH P (F vW)=some (ir_sSame F)) {ok:Nat→Prop} {w:World} {v1 v2:Value} {l1 l2:List UInt8} (h1:SlC ok w v1 l1.length (u8s l1)) (h2:SlC ok w v2 l2.length (u8s l2))
  (hl:l1.length≤4611686018427387904):Calls P (F vW) [v1,v2].toArray w fun e w'=>e=.returned (.bool (decide (l1=l2)))∧Mod [] w w':=by
 refine kT h hm (by simp) ?_
 obtain ⟨b1,c1,e1⟩:=h1.shape
 obtain ⟨b2,c2,e2⟩:=h2.shape
 have a0:qE [v1,v2] 0=v1:=rfl
 have a1:qE [v1,v2] 1=v2:=rfl
 generalize qE [v1,v2]=σ0 at a0 a1 ⊢
 rw [wpC_seq,kD]
 refine kC (v:=.bool false) (by simp [RK.val?]) ?_
 simp only [wpR,kF]
 rw [wpC_seq,wpC_seq,kD]
 refine kC (v:=v1) (by simp [RK.val?,a0]) ?_
 refine kC (v:=.int .i64 l1.length) (by simp [RK.val?,e1]) ?_
 refine kC (v:=v2) (by simp [RK.val?,a1]) ?_
 refine kC (v:=.int .i64 l2.length) (by simp [RK.val?,e2]) ?_
 refine kC (v:=.bool ((l1.length:Int) != l2.length)) (by simp [RK.val?,kM]) ?_
 simp only [wpR,kF]
 by_cases hlen:l1.length=l2.length
 ·have hb:((l1.length:Int) != l2.length)=false:=by simp [hlen]
  rw [kG (by simp [hb]),wpC_skip]
  simp only [kF]
  rw [wpC_seq,wpC_seq,kD]
  refine kC (v:=v1) (by simp [RK.val?,a0]) ?_
  refine kC (v:=.int .i64 l1.length) (by simp [RK.val?,e1]) ?_
  refine kC (v:=.int .i64 0) (by simp [RK.val?]) ?_
  simp only [wpR,kF]
  rw [wpC_block,wpC_loop]
  refine ⟨fun σ1 w1 =>∃i,i≤l1.length∧σ1 13=.int .i64 i∧σ1 12=.int .i64 l1.length∧σ1 0=v1∧σ1 1=v2∧Mod [] w w1 ∧∀k,k<i→l1[k]?=l2[k]?,
   fun σ1 _=>l1.length-(match σ1 13 with|.int _ j=>j.toNat|_=>0),⟨0,Nat.zero_le _,by simp,by simp,by simp [a0],by simp [a1],Mod.refl _ _,by simp⟩,?_⟩
  rintro σ1 w1 ⟨i,hi,h13,h12,hv1,hv2,hm1,hpre⟩
  rw [wpC_seq,kD]
  refine kC (v:=.bool (decide ((i:Int)<l1.length))) (by simp [RK.val?,h13,h12,kM]) ?_
  simp only [wpR,kF]
  rw [wpC_seq]
  by_cases hlt:i<l1.length
  ·rw [kI (by simp [hlt]),wpC_skip]
   simp only [kF]
   rw [wpC_seq,wpC_block,wpC_seq,kD]
   refine kC (v:=.int .i64 i) (by simp [RK.val?,h13]) ?_
   refine kC (v:=.int .i64 i) (by simp [RK.val?]) ?_
   simp only [wpR,kF]
   have hm2:Mod [] w w1.drew:=hm1.trans (Mod.drew _ _)
   obtain ⟨p1,d1,x1,f1,f2,f3⟩:=(h1.mod (ok':=ok) hm2 (by simp) fun _ _ h=>h).get hlt
   obtain ⟨p2,d2,x2,f4,f5,f6⟩:=(h2.mod (ok':=ok) hm2 (by simp) fun _ _ h=>h).get (hlen▸hlt)
   rw [wpC_seq]
   show wpD P _ _ _ _ _
   refine xC rfl ?_
   simp only [List.map_cons,List.map_nil,List.append_nil]
   refine kC (v:=v1) (by simp [RK.val?,hv1]) ?_
   refine kC (v:=.int .i64 i) (by simp [RK.val?]) ?_
   refine kC (v:=.pointer (some (p1.add (i*1)))) (by simp [RK.val?,f1,hlt]) ?_
   refine kC (v:=.int .u8 x1.toNat) (by simp [RK.val?];simpa using f3) ?_
   refine kC (v:=v2) (by simp [RK.val?,hv2]) ?_
   refine kC (v:=.int .i64 i) (by simp [RK.val?]) ?_
   refine kC (v:=.pointer (some (p2.add (i*1)))) (by simp [RK.val?,f4,←hlen,hlt]) ?_
   refine kC (v:=.int .u8 x2.toNat) (by simp [RK.val?];simpa using f6) ?_
   refine kC (v:=.bool (x1 != x2)) (by simp [RK.val?,kM,u8_ne]) ?_
   simp only [wpR,kF]
   by_cases hx:x1=x2
   ·subst hx
    rw [kG (by simp),wpC_skip]
    have hw:IntKind.i64.wrap ((i:Int)+1)=((i+1:Nat):Int):=by
     simp only [IntKind.wrap,IntKind.bits,IntKind.signed];simp;omega
    simp only [kR,kF]
    rw [kD]
    refine kC (v:=.int .i64 ((i+1:Nat):Int)) (by simp [RK.val?,kM,h13,hw]) ?_
    refine kC (v:=.int .i64 ((i+1:Nat):Int)) (by simp [RK.val?]) ?_
    simp only [wpR,kF]
    refine ⟨⟨i+1,hlt,by simp,by simp [h12],by simp [hv1],by simp [hv2],hm2,fun k hk=>?_⟩,?_⟩
    ·rcases Nat.lt_or_ge k i with hk'|hk'
     ·exact hpre k hk'
     ·have:k=i:=by omega
      subst this;rw [f2,f5]
    ·simp [h13];show l1.length-(i+1)<l1.length-i;omega
   ·rw [kI (by simp [hx]),wpC_seq,kD]
    refine kC (v:=.bool false) (by simp [RK.val?]) ?_
    have hne:l1≠l2:=fun e=>by subst e;rw [f2] at f5;simp at f5;exact hx f5
    simp [hne,hm2]
  ·rw [kG (by simp;omega)]
   have hie:i=l1.length:=by omega
   have heq:l1=l2:=by
    apply List.ext_getElem? ;intro k
    rcases Nat.lt_or_ge k l1.length with hk|hk
    ·exact hpre k (by omega)
    ·rw [List.getElem?_eq_none hk,List.getElem?_eq_none (by omega)]
   simp [heq,hm1]
 ·have hb:((l1.length:Int) != l2.length)=true:=by simp;omega
  rw [kI (by simp [hb]),wpC_seq,kD]
  refine kC (v:=.bool false) (by simp [RK.val?]) ?_
  have hne:l1≠l2:=fun e=>hlen (by rw [e])
  simp [hne,Mod.refl]
end
def kJT (P:Program) (f:FuncId) (t:TR):Prop :=
 ∀(N:Nat) (w:World) (cs:List Value),N≤w.heap.size→RepT (fun b=>b<N) w t cs →
 Calls P f [.agg cs.toArray].toArray w fun e w' =>∃cs',e=.returned (.agg cs'.toArray)∧RepT (fun b=>b<N∨w.heap.size≤b) w' t cs'∧Mod [] w w'
structure x9 (w:World) (n0:Nat) (lv:Value) (css:List (List Value)):Prop where
 two :∀cs∈css,cs.length=2
 sl:(lv=.slice none 0 0∧css=[]) ∨∃BA cap rest,lv=.slice (some ⟨BA,0,none⟩) css.length cap∧css.length≤cap∧n0≤BA∧Blk w BA (css.flatten++rest)∧rest.length=(cap-css.length)*2
section
variable {P:Program} {F:Nat→Nat}
attribute [local simp] bnd wpC wpR RI.wp gOk RK.run kF kR updo upd ev qE postC rvals RV.val zR kL
structure GS (w3 w:World) (Ob:Nat) (n:Int) (sv lv uv:Value) (null:Bool) (N:Nat) (ts:List TR) (tcs:List (List Value)):Prop where
 ob:Blk w Ob [.int .i64 n,sv,.bool null,lv,uv]
 raw:LRaw w w3.heap.size lv tcs
 rep:jN (fun b=>b<N∨(w3.heap.size≤b∧own lv≠some b)) w ts tcs
 mod:Mod [Ob] w3 w
 lob:Ob<w3.heap.size
 nob:N≤Ob
theorem GS.same {w3 w w':World} {Ob:Nat} {n:Int} {sv lv uv:Value} {null:Bool} {N:Nat} {ts:List TR} {tcs:List (List Value)} (h:GS w3 w Ob n sv lv uv null N ts tcs) (hm:Mod [] w w'):GS w3 w' Ob n sv lv uv null N ts tcs :=
 ⟨h.ob.mod hm (by simp),h.raw.mod hm (by simp),h.rep.mod hm (by simp) (fun _ _ h=>h),h.mod.trans hm.nil,h.lob,h.nob⟩
theorem GS.step {w3 w wr:World} {Ob:Nat} {n:Int} {sv lv uv:Value} {null:Bool} {N:Nat} {ts:List TR} {tcs:List (List Value)} {t:TR} {es:List Value} {sb:Nat} {σ:Sl} {x y a:Operand} {d1 d2:Nat} {Q:Sl→World→Prop} (h:GS w3 w Ob n sv lv uv null N ts tcs)
  (hx:ev σ x=lv) (hy:ev σ y=.slice (some ⟨sb,0,none⟩) 1 1) (hsb:Blk w sb es) (ht:RepT (fun b=>b<N∨wr.heap.size≤b) w t es) (hlen:tcs.length≤2147483647)
  (hwr :∀b,own lv=some b→b<wr.heap.size) (hwr3:w3.heap.size≤wr.heap.size) (ha :∀v,ev (upd σ d1 v) a=.pointer (some ⟨Ob,0,none⟩)) (hd:d1≠d2)
  (hQ :∀w' lv',GS w3 w' Ob n sv lv' uv null N (ts++[t]) (tcs++[es])→Q (upd (upd σ d1 lv') d2 (.pointer (some ⟨Ob,3,none⟩))) w') :
  wpR P [⟨some d1,.append x y 5 88,none⟩,⟨some d2,.fad a 3,none⟩,⟨none,.st (.tmp d2) 1 (.tmp d1),none⟩] σ w Q:=by
 have hlob:=h.lob
 have hnob:=h.nob
 refine kX ?_
 refine kBU hx h.raw h.mod.size hy hsb ht.five ht.oneCell hlen fun lv' w1 hraw1 hown=>?_
 refine kC (v:=.pointer (some ⟨Ob,3,none⟩)) (by
  show (RK.fad a 3).val? (upd σ d1 lv') w1=_
  simp only [RK.val?,ha lv',Addr.kK,Nat.zero_add]) ?_
 obtain ⟨o1,o2⟩:=hraw1.one
 have hge :∀b,own lv=some b→w3.heap.size≤b:=fun b hb=>(h.raw.own hb).1
 have hge' :∀b,own lv'=some b→w3.heap.size≤b:=fun b hb=>(hraw1.own hb).1
 -- the world behind the append
 have key:Blk w1 Ob [.int .i64 n,sv,.bool null,lv,uv]∧Mod [Ob] w3 w1∧jN (fun b=>b<N∨(w3.heap.size≤b∧own lv'≠some b)) w1 (ts++[t]) (tcs++[es]):=by
  rcases hown with ⟨⟨ho,hm⟩,-⟩|⟨ho,hm⟩
  ·have hS :∀b∈(own lv).toList,own lv=some b:=fun b hb=>by simpa using hb
   refine ⟨h.ob.mod hm (fun hc=>by have:=hge _ (hS _ hc);omega),?_,(h.rep.mod hm (fun b hb hc=>?_) (fun b _ hb=>by rw [ho];exact hb)).append (.cons (ht.mod hm (fun b hb hc=>?_) fun b _ hb=>?_) .nil)⟩
   ·refine ⟨hm.os.trans h.mod.os,hm.tape.trans h.mod.tape,hm.output.trans h.mod.output,Nat.le_trans h.mod.size hm.size,fun k hk hn=>?_⟩
    rw [hm.block k (Nat.lt_of_lt_of_le hk h.mod.size) (fun hc=>by have:=hge _ (hS _ hc);omega)]
    exact h.mod.block k hk hn
   ·have:=hge _ (hS _ hb)
    rcases hc with hc|hc
    ·omega
    ·exact hc.2 (hS b hb)
   ·have:=hge _ (hS _ hb);have:=hwr _ (hS _ hb)
    rcases hc with hc|hc<;>omega
   ·rcases hb with hb|hb
    ·exact .inl hb
    ·refine .inr ⟨by omega,fun e=>?_⟩
     rw [ho] at e
     have:=hwr _ e;omega
  ·refine ⟨h.ob.mod hm (by simp),h.mod.trans hm.nil,(h.rep.mod hm (by simp) fun b hlt hb=>?_).append (.cons (ht.mod hm (by simp) fun b hlt hb=>?_) .nil)⟩
   ·rcases hb with hb|hb
    ·exact .inl hb
    ·exact .inr ⟨hb.1,fun e=>by rw [ho] at e;simp only [Option.some.injEq] at e;omega⟩
   ·rcases hb with hb|hb
    ·exact .inl hb
    ·exact .inr ⟨by omega,fun e=>by rw [ho] at e;simp only [Option.some.injEq] at e;omega⟩
 obtain ⟨k1,k2,k3⟩:=key
 have hput:Mod [Ob] w1 (putCells w1 ⟨Ob,3,none⟩ 0 [lv']):=Mod.put (by simp)
 have hp:=k1.put (o:=3) (vs:=[lv']) (by simp)
 have e1:splice [Value.int .i64 n,sv,.bool null,lv,uv] 3 [lv']=[.int .i64 n,sv,.bool null,lv',uv]:=by simp [splice]
 rw [e1] at hp
 have s1:(updo (updo σ (some d1) lv') (some d2) (.pointer (some ⟨Ob,3,none⟩))) d1=lv':=by simp only [updo,upd,hd,if_false,if_true]
 have s2:(updo (updo σ (some d1) lv') (some d2) (.pointer (some ⟨Ob,3,none⟩))) d2=.pointer (some ⟨Ob,3,none⟩):=by simp only [updo,upd,if_true]
 refine kX ?_
 simp only [RK.run,ev,s1,s2,o1]
 refine ⟨rfl,yN k1 (by simp) o2,?_⟩
 exact hQ _ lv' ⟨hp,hraw1.mod hput (fun b hb=>by have:=hge' b hb;simp;omega),k3.mod hput (fun b hb hc=>by
  simp only [List.mem_singleton] at hb
  rcases hc with hc|hc<;>omega) (fun _ _ h=>h),k2.trans hput,hlob,hnob⟩
theorem SlC.flat {ok:Nat→Prop} {w:World} {v:Value} {n sz j:Nat} {css:List (List Value)} {cs:List Value} (h:SlC ok w v n css.flatten) (hn:n=css.length) (hsz :∀c∈css,c.length=sz) (hj:css[j]?=some cs) :
  ∃a c,v=.slice (some a) n c∧j<n∧kV w (a.add (j*sz)) 0 sz=some cs:=by
 have hjl:j<css.length:=by
  rcases Nat.lt_or_ge j css.length with h|h
  ·exact h
  ·rw [List.getElem?_eq_none h] at hj;simp at hj
 obtain ⟨base,cap,rfl,h2,h3,h4⟩:=h
 cases base with
 | none=>have:=h3 rfl;omega
 | some a =>
   obtain ⟨-,-,hc⟩:=h4 a rfl (by omega)
   refine ⟨a,cap,rfl,by omega,?_⟩
   have:=kBA hc hsz hj
   rw [Addr.kC7 hc.1]
   exact kJ this (hsz _ (List.mem_of_getElem? hj))
theorem SlC.pair {ok:Nat→Prop} {w:World} {v:Value} {n j:Nat} {css:List (List Value)} {a b:Value} (h:SlC ok w v n css.flatten) (hn:n=css.length) (hsz :∀c∈css,c.length=2) (hj:css[j]?=some [a,b]) :
  ∃p c,v=.slice (some p) n c∧j<n∧w.cell? ((p.add (j*2)).add 0)=some a∧w.cell? ((p.add (j*2)).add 1)=some b:=by
 have hjl:j<css.length:=by
  rcases Nat.lt_or_ge j css.length with h|h
  ·exact h
  ·rw [List.getElem?_eq_none h] at hj;simp at hj
 obtain ⟨base,cap,rfl,h2,h3,h4⟩:=h
 cases base with
 | none=>have:=h3 rfl;omega
 | some p =>
   obtain ⟨-,-,hc⟩:=h4 p rfl (by omega)
   have hcl:=kBA hc hsz hj
   refine ⟨p,cap,rfl,by omega,?_,?_⟩
   ·rw [Addr.kC7 hc.1];exact hcl.nth (i:=0) rfl
   ·rw [Addr.kC7 hc.1];exact hcl.nth (i:=1) rfl
theorem jN.nth {ok:Nat→Prop} {w:World} {l:List TR} {css:List (List Value)} (h:jN ok w l css) {j:Nat} {t:TR} (ht:l[j]?=some t) :∃cs,css[j]?=some cs∧RepT ok w t cs:=by
 induction l generalizing css j with
 | nil=>simp at ht
 | cons a l ih =>
 cases h with
 | cons h1 h2 =>
 cases j with
 | zero=>simp only [List.getElem?_cons_zero,Option.some.injEq] at ht;subst ht;exact ⟨_,rfl,h1⟩
 | succ j=>simp only [List.getElem?_cons_succ] at ht ⊢;exact ih h2 ht
theorem kNG {N:Nat} {w w3:World} {Pb b2 Ob:Nat} {n:Int} {sv lv0:Value} {null:Bool} {l:List TR} {css:List (List Value)} {σ:Sl} {Q:Exit→Sl→World→Prop} (hf :∀t∈l,kJT P (F lGot) t)
  (hw:Mod [] w w3) (hN:N≤w.heap.size) (hl:SlC (fun b=>b<N) w lv0 l.length css.flatten) (hr:jN (fun b=>b<N) w l css) (hlen:l.length≤2147483647)
  (hob:Blk w3 Ob [.int .i64 n,sv,.bool null,.slice none 0 0,.slice none 0 0]) (hoN:N≤Ob)
  (h1:σ 1=.pointer (some ⟨Pb,0,none⟩)) (h2:σ 2=.pointer (some ⟨b2,0,none⟩)) (h3:σ 3=.pointer (some ⟨Ob,0,none⟩)) (hpb:w3.cell? ⟨Pb,3,none⟩=some lv0)
  (hQ :∀σ' w' lv tcs,σ' 1=.pointer (some ⟨Pb,0,none⟩)→σ' 2=.pointer (some ⟨b2,0,none⟩)→σ' 3=.pointer (some ⟨Ob,0,none⟩)→GS w3 w' Ob n sv lv (.slice none 0 0) null N l tcs→tcs.length=l.length→Q .normal σ' w') :
  wpC P (.seq (.blk [⟨some 15,.fad (.tmp 1) 3,none⟩,⟨some 16,.ld (.tmp 15),none⟩,⟨some 17,.len (.tmp 16),none⟩,⟨some 18,.mv (.const (.int .i64 0)),none⟩])
   (.block 0 (.loop (.seq (.blk [⟨some 19,.bin .lss (.tmp 18) (.tmp 17),none⟩]) (.seq (.cond (.tmp 19) .skip (.exit 0))
    (.seq (.block 1 (.seq (.blk [⟨some 20,.iad (.tmp 16) (.tmp 18) 5,none⟩,⟨some 21,.ldn (.tmp 20) 5,none⟩,⟨some 5,.alloc tzero,none⟩,⟨none,.st (.tmp 5) 5 (.tmp 21),none⟩])
      (.drw [⟨⟨some 22,.fad (.tmp 3) 3,none⟩,false,[]⟩,⟨⟨some 23,.ld (.tmp 22),none⟩,false,[]⟩,⟨⟨some 24,.ldn (.tmp 5) 5,none⟩,false,[]⟩,⟨⟨some 25,.call (F lGot) [.tmp 24],none⟩,true,[]⟩,
        ⟨⟨some 26,.bslice 1 tzero [(0,5,.tmp 25)],none⟩,true,[3]⟩]
       [⟨some 27,.append (.tmp 23) (.tmp 26) 5 88,none⟩,⟨some 28,.fad (.tmp 3) 3,none⟩,⟨none,.st (.tmp 28) 1 (.tmp 27),none⟩])))
     (.blk [⟨some 29,.bin .add (.tmp 18) (.const (.int .i64 1)),none⟩,⟨some 18,.mv (.tmp 29),none⟩])))))))
   Q σ w3:=by
 obtain ⟨lb,lc,elv⟩:=hl.shape
 have hol:=hob.lt
 rw [wpC_seq,kD]
 refine kC (v:=.pointer (some ⟨Pb,3,none⟩)) (by simp [RK.val?,h1,Addr.kK]) ?_
 refine kC (v:=lv0) (by simp [RK.val?,hpb]) ?_
 refine kC (v:=.int .i64 l.length) (by simp [RK.val?,elv]) ?_
 refine kC (v:=.int .i64 0) (by simp [RK.val?]) ?_
 simp only [wpR,kF]
 rw [wpC_block,wpC_loop]
 refine ⟨fun σ1 w1 =>∃j lv tcs,j≤l.length∧σ1 1=.pointer (some ⟨Pb,0,none⟩)∧σ1 2=.pointer (some ⟨b2,0,none⟩)∧σ1 3=.pointer (some ⟨Ob,0,none⟩)∧σ1 16=lv0∧σ1 17=.int .i64 l.length∧σ1 18=.int .i64 j ∧
   GS w3 w1 Ob n sv lv (.slice none 0 0) null N (l.take j) tcs∧tcs.length=j,
  fun σ1 _=>l.length-(match σ1 18 with|.int _ j=>j.toNat|_=>0),⟨0,.slice none 0 0,[],Nat.zero_le _,by simp [h1],by simp [h2],by simp [h3],by simp,by simp,by simp,⟨hob,⟨by simp,.inl ⟨rfl,rfl⟩⟩,by simpa using .nil,Mod.refl _ _,hol,hoN⟩,rfl⟩,?_⟩
 rintro σ1 w1 ⟨j,lv,tcs,hj,s1,s2,s3,s16,s17,s18,hgs,htl⟩
 rw [wpC_seq,kD]
 refine kC (v:=.bool (decide ((j:Int)<l.length))) (by simp [RK.val?,s17,s18,kM]) ?_
 simp only [wpR,kF]
 rw [wpC_seq]
 by_cases hlt:j<l.length
 ·rw [kI (by simp [hlt]),wpC_skip]
  simp only [kF]
  rw [wpC_seq,wpC_block,wpC_seq,kD]
  obtain ⟨tj,htj⟩ :∃t,l[j]?=some t:=⟨l[j],List.getElem?_eq_getElem hlt⟩
  have hmw:Mod [Ob] w w1:=hw.nil.trans hgs.mod
  have hNob :∀b∈[Ob],¬b<N:=fun b hb=>by simp only [List.mem_singleton] at hb;omega
  obtain ⟨cj,hcj,hrj⟩:=(hr.mod (ok':=fun b=>b<N) hmw hNob fun _ _ h=>h).nth htj
  obtain ⟨pa,pc,ep,-,hcells⟩:=(hl.mod (ok':=fun b=>b<N) hmw hNob fun _ _ h=>h).flat hr.length hr.five hcj
  refine kC (v:=.pointer (some (pa.add (j*5)))) (by simp [RK.val?,s16,s18,ep,hlt]) ?_
  refine kC (v:=.agg cj.toArray) (by simp [RK.val?,hcells]) ?_
  refine kX ?_
  intro Ty
  obtain ⟨q1,q2,q3⟩:=wV w1 tzero cj Ty (by rw [hrj.five];rfl) hrj.oneCell
  refine kX ?_
  have ec:(Value.agg cj.toArray).cells=cj.toArray:=rfl
  have ec':(Value.agg cj.toArray).cells.toList=cj:=by simp [Value.cells]
  simp only [RK.run,ev,updo,upd]
  simp only [if_true,show (21:Nat)≠5 by decide,if_false,ec']
  refine ⟨by rw [ec];simp [hrj.five],q1,?_⟩
  generalize hw4:putCells (w1.alloc (.cells tzero.toArray Ty)) ⟨w1.heap.size,0,none⟩ 0 cj=w4 at q2 q3
  simp only [wpR,kF]
  -- the region
  have hgs4:=hgs.same q3
  have hrj4:=hrj.mod (ok':=fun b=>b<N) q3 (by simp) fun _ _ h=>h
  have hN4:N≤w4.heap.size:=Nat.le_trans hN (Nat.le_trans hmw.size q3.size)
  have sz4:w3.heap.size≤w4.heap.size:=Nat.le_trans hgs.mod.size q3.size
  show wpD P _ _ _ w4.drew _
  refine zM (fun jj v w'=>if jj=3 then∃cs',v=.agg cs'.toArray∧RepT (fun b=>b<N∨w4.heap.size≤b) w' tj cs' else∃sb cs',v=.slice (some ⟨sb,0,none⟩) 1 1∧Blk w' sb cs'∧RepT (fun b=>b<N∨w4.heap.size≤b) w' tj cs') ?_ ?_
  ·intro jj v w5 w6 h hm
   split at h
   ·rename_i hjj;rw [if_pos hjj]
    obtain ⟨cs',g1,g2⟩:=h
    exact ⟨cs',g1,g2.mod hm (by simp) fun _ _ h=>h⟩
   ·rename_i hjj;rw [if_neg hjj]
    obtain ⟨sb,cs',g1,g2,g3⟩:=h
    exact ⟨sb,cs',g1,g2.mod hm (by simp),g3.mod hm (by simp) fun _ _ h=>h⟩
  refine qQ (v:=.pointer (some ⟨Ob,3,none⟩)) (by simp [RK.val?,s3,Addr.kK]) ?_
  refine qQ (v:=lv) (by simp [RK.val?];exact hgs4.ob.cell 3) ?_
  refine qQ (v:=.agg cj.toArray) (by
   have:kV w4.drew ⟨w1.heap.size,0,none⟩ 0 5=some cj:=kJ (show Cells w4.drew _ _ from q2.cells) hrj.five
   simp [RK.val?,this]) ?_
  refine wL (fun w5 hm5 _=>?_) fun u hu=>?_
  ·have hm45:Mod [] w4 w5:=(Mod.drew _ _).trans hm5
   have:=hf tj (List.mem_of_getElem? htj) N w5 cj (Nat.le_trans hN4 hm45.size) (hrj4.mod hm45 (by simp) fun _ _ h=>h)
   simp only [RK.run,List.map_cons,List.map_nil,ev,updo,upd,if_true]
   refine this.mono ?_
   rintro e w6 ⟨cs',rfl,g1,g2⟩
   refine ⟨_,rfl,g2,?_⟩
   exact ⟨cs',rfl,g1.mod (Mod.refl [] _) (by simp) fun b _ hb=>hb.imp id fun h=>Nat.le_trans hm45.size h⟩
  obtain ⟨wu,hu⟩:=hu
  obtain ⟨cu,rfl,hcu⟩:=hu
  refine wL (fun w5 hm5 hkn=>?_) fun u2 hu2=>?_
  ·have h3:=hkn 3 (by simp) _ rfl rfl rfl 25 rfl
   dsimp only at h3
   rw [if_pos rfl] at h3
   simp only [updo,upd,if_true] at h3
   obtain ⟨cs',e3,h3⟩:=h3
   have:cu=cs':=by
    have:=congrArg (fun v=>match v with|Value.agg a=>a.toList|_=>[]) e3
    simpa using this
   subst this
   refine kCX (cs:=cu) (n0:=0) (by simp) h3.five (Nat.zero_le _) fun v w6 hbs hm6=>?_
   obtain ⟨sb,cs',g1,g2,g3,g4,g5⟩:=hbs
   have:cs'=cu:=by
    have:=congrArg (fun v=>match v with|Value.agg a=>a.toList|_=>[]) g5
    simpa using this
   subst this
   refine ⟨hm6,?_⟩
   rw [if_neg (by omega)]
   exact ⟨sb,cs',g1,g3,h3.mod hm6 (by simp) fun _ _ h=>h⟩
  simp only [j4]
  intro w5 hm5 hkn
  have h4:=hkn 4 (by simp) _ rfl rfl rfl 26 rfl
  dsimp only at h4
  rw [if_neg (by omega)] at h4
  simp only [updo,upd,if_true] at h4
  obtain ⟨sb,es,rfl,hblk,htree⟩:=h4
  have hm45:Mod [] w4 w5:=(Mod.drew _ _).trans hm5
  refine (hgs4.same hm45).step (wr:=w4) (t:=tj) (by simp) (by simp) hblk htree (by omega) (fun b hb=>(hgs4.raw.own hb).2) sz4 (fun v=>by simp [s3]) (by decide) fun w6 lv' hgs6=>?_
  simp only [kR,kF]
  have hw:IntKind.i64.wrap ((j:Int)+1)=((j+1:Nat):Int):=by
   simp only [IntKind.wrap,IntKind.bits,IntKind.signed];simp;omega
  rw [kD]
  refine kC (v:=.int .i64 ((j+1:Nat):Int)) (by simp [RK.val?,kM,s18,hw]) ?_
  refine kC (v:=.int .i64 ((j+1:Nat):Int)) (by simp [RK.val?]) ?_
  simp only [wpR,kF]
  refine ⟨⟨j+1,lv',tcs++[es],hlt,by simp [s1],by simp [s2],by simp [s3],by simp [s16],by simp [s17],by simp,?_,by simp [htl]⟩,?_⟩
  ·rw [List.take_add_one,htj];simpa using hgs6
  ·simp [s18];show l.length-(j+1)<l.length-j;omega
 ·rw [kG (by simp;omega)]
  have hje:j=l.length:=by omega
  subst hje
  rw [List.take_length] at hgs
  simp only [wpC,kR,kF,if_true]
  exact hQ _ w1 lv tcs (by simp [s1]) (by simp [s2]) (by simp [s3]) hgs htl
end
def tabU:ByteArray:=⟨#[1,1,1,1,1,1,1,1,2,2,2,2,2,2,2,3,3,3,3,3,3,3,4,4,4,4,4,4,4,5,5,5,5,5,5,5,6,6,6,6,6,6,6,7,7,7,7,7,7,7,8,8,8,8,8,8,8,9,9,9,9,9,9,9,10,0,0,0,0,0,0,0,0,0,0,0,0,0,0,0,0,0,0,0,0,0,0,0,0,0,0,0,0,0,0,0,0,0,0,0,0,0,0,0,0,0,0,0,0,0,0,0,0,0,0,0,0,0,0,0,0,0,0,0,0,0,0,0,0,0,0,0,0,0,0,0,0,0,0,0,0,0,0,0,0,0,0,0,0,0,0,0,0,0,0,0,0,0,0,0,0,0,0,0,0,0,0,0,0,0,0,0,0,0,0,0,0,0,0,0,0,0,0,0,0,0,0,0,0,0,0,0,0,0,0,0,0,0,0,0,0,0,0,0,0,0,0,0,0,0,0,0,0,0,0,0,0,0,0,0,0,0,0,0,0,0,0,0,0,0,0,0,0,0,0,0,0,0,0,0,0,0,0,0,0,0,0,0,0,0,0,0,0,0,0,0]⟩
def lim:Nat:=70368744177664
def ownB:Value→Option Nat
 | .slice (some a) _ _=>some a.block
 | _=>none
structure DRaw (w:World) (n0:Nat) (v:Value) (l:List UInt8):Prop where
 sl:(v=.slice none 0 0∧l=[]) ∨∃B cap rest,v=.slice (some ⟨B,0,none⟩) l.length cap∧l.length≤cap∧n0≤B∧Blk w B (u8s l++rest)∧rest.length=cap-l.length
theorem DRaw.mod {w w':World} {n0:Nat} {v:Value} {l:List UInt8} {S:List Nat} (h:DRaw w n0 v l) (hm:Mod S w w') (hS :∀b,ownB v=some b→b ∉ S):DRaw w' n0 v l :=
 ⟨h.sl.imp id fun ⟨B,cap,rest,h1,h2,h3,h4,h5⟩=>⟨B,cap,rest,h1,h2,h3,h4.mod hm (hS _ (by rw [h1];rfl)),h5⟩⟩
theorem DRaw.own {w:World} {n0:Nat} {v:Value} {l:List UInt8} (h:DRaw w n0 v l) {b:Nat} (hb:ownB v=some b):n0≤b∧b<w.heap.size:=by
 rcases h.sl with ⟨rfl,-⟩|⟨B,cap,rest,rfl,-,h3,h4,-⟩
 ·simp [ownB] at hb
 ·simp only [ownB,Option.some.injEq] at hb;subst hb;exact ⟨h3,h4.lt⟩
theorem DRaw.slc {w:World} {n0:Nat} {v:Value} {l:List UInt8} (h:DRaw w n0 v l):SlC (fun b=>n0≤b) w v l.length (u8s l):=by
 rcases h.sl with ⟨rfl,rfl⟩|⟨B,cap,rest,rfl,h2,h3,h4,-⟩
 ·exact SlC.nil
 ·refine ⟨_,cap,rfl,h2,fun h=>by simp at h,fun a ha _=>?_⟩
  simp only [Option.some.injEq] at ha;subst ha
  refine ⟨h3,h4.lt,?_⟩
  have:=h4.cells.take (u8s l).length
  simpa using this
structure AppD (n0:Nat) (w:World) (v:Value) (w':World) (v':Value) (l:List UInt8):Prop where
 raw:DRaw w' n0 v' l
 mod:Mod (ownB v).toList w w'
 own :∀b,ownB v'=some b→ownB v=some b∨w.heap.size≤b
theorem AppD.refl {n0:Nat} {w:World} {v:Value} {l:List UInt8} (h:DRaw w n0 v l):AppD n0 w v w v l:=⟨h,Mod.refl _ _,fun _ h=>.inl h⟩
theorem AppD.trans {n0:Nat} {w w1 w2:World} {v v1 v2:Value} {l1 l2:List UInt8} (h:AppD n0 w v w1 v1 l1) (k:AppD n0 w1 v1 w2 v2 l2):AppD n0 w v w2 v2 l2:=by
 refine ⟨k.raw,?_,fun b hb=>?_⟩
 ·cases ho:ownB v1 with
  | none=>have:=k.mod;rw [ho] at this;exact h.mod.trans this.nil
  | some b =>
    have km:=k.mod
    rw [ho] at km
    rcases h.own b ho with h1|h1
    ·have hm:=h.mod
     rw [h1] at hm ⊢
     exact hm.trans km
    ·refine Mod.drop (b:=b) (S:=(ownB v).toList) ?_ h1
     exact (h.mod.mono (by intro x hx;exact List.mem_cons_of_mem _ hx)).trans (km.mono (by simp))
 ·rcases k.own b hb with h1|h1
  ·exact h.own b h1
  ·exact .inr (Nat.le_trans h.mod.size h1)
theorem AppD.side {n0:Nat} {w w1 w2:World} {v v1:Value} {l:List UInt8} (h:AppD n0 w v w1 v1 l) (hm:Mod [] w1 w2):AppD n0 w v w2 v1 l :=
 ⟨h.raw.mod hm (by simp),h.mod.trans hm.nil,h.own⟩
theorem AppD.pre {n0:Nat} {w w1 w2:World} {v v1:Value} {l:List UInt8} (hm:Mod [] w w1) (h:AppD n0 w1 v w2 v1 l):AppD n0 w v w2 v1 l :=
 ⟨h.raw,hm.nil.trans h.mod,fun b hb=>(h.own b hb).imp id fun h=>Nat.le_trans hm.size h⟩
section
variable {P:Program}
theorem qR {σ:Sl} {w:World} {x y:Operand} {v:Value} {l k:List UInt8} {n0:Nat} {K:Value→World→Prop} (hx:ev σ x=v) (hv:DRaw w n0 v l) (hn0:n0≤w.heap.size) (hy:qI w 1 (ev σ y)=some (k.length,u8s k))
  (hl:l.length+k.length≤lim) (hK :∀v' w',AppD n0 w v w' v' (l++k)→K v' w'):(RK.append x y 1 1).run P σ w K:=by
 unfold lim at hl
 simp only [RK.run,hx]
 rcases hv.sl with ⟨rfl,rfl⟩|⟨B,cap,rest,rfl,h2,h3,h4,hr⟩
 ·simp only [hy,qV]
  by_cases hk:k.length=0
  ·have:k=[]:=List.length_eq_zero_iff.1 hk
   subst this
   simp only [List.length_nil,Nat.add_zero,Nat.le_refl,if_true]
   exact hK _ _ (AppD.refl ⟨.inl ⟨rfl,rfl⟩⟩)
  ·rw [if_neg (by omega)]
   refine ⟨by omega,by omega,?_⟩
   intro T cap rest hc hr
   have hb:=Blk.new w.drew (u8s k++rest) T
   refine hK _ _ ⟨⟨.inr ⟨w.heap.size,cap,rest,by simp,by simpa using hc,hn0,by simpa using hb,by simpa using hr⟩⟩,(Mod.drew _ _).trans (Mod.alloc _ _ _),fun b hb=>?_⟩
   simp only [ownB,Option.some.injEq] at hb;subst hb;exact .inr (Nat.le_refl _)
 ·simp only [hy,qV]
  by_cases hc:l.length+k.length≤cap
  ·rw [if_pos hc]
   simp only [Addr.kK,Nat.zero_add,Nat.mul_one]
   have hone :∀v∈u8s k,v.oneCell'=true:=fun v hv=>by simp only [u8s,List.mem_map] at hv;obtain ⟨b,-,rfl⟩:=hv;rfl
   refine ⟨qL h4 (by simp only [List.length_append,kY];omega) hone,hK _ _ ⟨⟨.inr ⟨B,cap,rest.drop k.length,by simp,by simpa using hc,h3,?_,by simp;omega⟩⟩,by simpa [ownB] using Mod.put (by simp),fun b hb=>.inl (by simpa [ownB] using hb)⟩⟩
   have hput:=h4.put (o:=l.length) (vs:=u8s k) (by simp only [List.length_append,kY];omega)
   have e:splice (u8s l++rest) l.length (u8s k)=u8s (l++k)++rest.drop k.length:=by
    rw [uH (kY l),kY,show u8s (l++k)=u8s l++u8s k by simp [u8s],List.append_assoc]
   rwa [e] at hput
  ·rw [if_neg hc]
   refine ⟨by omega,by omega,?_⟩
   have hco:kV w ⟨B,0,none⟩ 0 (l.length*1)=some (u8s l):=by
    have:=h4.cells.take (u8s l).length
    rw [List.take_left] at this
    exact kJ this (by rw [kY,Nat.mul_one])
   simp only [hco]
   intro T cap' rest' hc' hr'
   have hb:=Blk.new w.drew (u8s l++(u8s k++rest')) T
   refine hK _ _ ⟨⟨.inr ⟨w.heap.size,cap',rest',by simp,by simpa using hc',hn0,?_,by simp;omega⟩⟩,((Mod.drew [] _).trans (Mod.alloc _ _ _)).nil,fun b hb=>?_⟩
   ·have e:u8s (l++k)=u8s l++u8s k:=by simp [u8s]
    rw [e,List.append_assoc];exact hb
   ·simp only [ownB,Option.some.injEq] at hb;subst hb;exact .inr (Nat.le_refl _)
end
def beI:Nat→Int→List UInt8
 | 0,_=>[]
 | k+1,n=>UInt8.ofNat ((n/256^k)%256).toNat::beI k n
theorem zL :∀(k:Nat) (n:Int),(beI k n).length=k
 | 0,_=>rfl
 | k+1,n=>by simp [beI,zL k n]
theorem u8v (n:Int) (_h:0≤n):Value.int .u8 (IntKind.u8.wrap n)=Value.int .u8 ((UInt8.ofNat (n%256).toNat).toNat:Int):=by
 have e:IntKind.u8.wrap n=n%256:=by
  simp only [IntKind.wrap,IntKind.bits,IntKind.signed];simp
 have h2:0≤n%256:=Int.emod_nonneg _ (by omega)
 have h3:n%256<256:=Int.emod_lt_of_pos _ (by omega)
 rw [e,Value.int.injEq]
 refine ⟨rfl,?_⟩
 have:(UInt8.ofNat (n%256).toNat).toNat=(n%256).toNat:=by simp;omega
 rw [this];omega
theorem u8vz (n:Int):Value.int .u8 (IntKind.u8.wrap n)=Value.int .u8 ((UInt8.ofNat (n%256).toNat).toNat:Int):=by
 have e:IntKind.u8.wrap n=n%256:=by
  simp only [IntKind.wrap,IntKind.bits,IntKind.signed];simp
 have h2:0≤n%256:=Int.emod_nonneg _ (by omega)
 have h3:n%256<256:=Int.emod_lt_of_pos _ (by omega)
 rw [e,Value.int.injEq]
 refine ⟨rfl,?_⟩
 have:(UInt8.ofNat (n%256).toNat).toNat=(n%256).toNat:=by simp;omega
 rw [this];omega
theorem kGT (p x:Int) (hp:0<p):(x/p)%256=(x%(p*256))/p:=by
 have a:x%(p*256)=x+p*(-(256*(x/p/256))):=by
  rw [Int.emod_def,←Int.ediv_ediv_of_nonneg (by omega),Int.mul_neg,←Int.sub_eq_add_neg,Int.mul_assoc]
 rw [a,Int.add_mul_ediv_left _ _ (by omega),Int.emod_def (x/p)]
 omega
section
variable {P:Program} {F:Nat→Nat}
theorem kJU {σ:Sl} {w:World} {n:Nat} {l:List (Nat×Nat×Operand)} {bs:List UInt8} {K:Value→World→Prop} (hf:zW (zrep n [.int .u8 0]) (l.map fun (o,k,x)=>(o,k,ev σ x))=some (u8s bs)) (hn:bs.length=n)
 (hK :∀v w',qI w' 1 v=some (bs.length,u8s bs)→Mod [] w w'→K v w'):(RK.bslice n [.int .u8 0] l).run P σ w K:=by
 simp only [RK.run]
 rw [hf]
 intro T
 have hb:=Blk.new w (u8s bs) T
 refine hK _ _ ?_ (Mod.alloc _ _ _)
 simp only [qI,Nat.mul_one]
 rw [kJ hb.cells (by rw [kY,hn])]
 simp [hn]
end
def lenU (n:Nat):Nat:=if n<128 then 1 else if n<16384 then 2 else if n<2097152 then 3 else if n<268435456 then 4 else 5
def tU (i:Nat):Nat:=(tabU.data.toList.getD i 0).toNat
def uvE (n:Nat):List UInt8:=if n<128 then [UInt8.ofNat n] else UInt8.ofNat (n%128+128)::uvE (n/128)
termination_by n
decreasing_by omega
theorem kAN {n:Nat} (h:n<128):uvE n=[UInt8.ofNat n]:=by rw [uvE,if_pos h]
theorem kCY {n:Nat} (h:128≤n):uvE n=UInt8.ofNat (n%128+128)::uvE (n/128):=by rw [uvE,if_neg (by omega)]
theorem kLX {n:Nat} (h:n<4294967296):(uvE n).length=lenU n:=by
 have go :∀n,n<128→(uvE n).length=1:=fun n h=>by rw [kAN h];rfl
 unfold lenU
 split
 ·exact go n (by omega)
 ·rw [kCY (by omega)]
  split
  ·simp [go (n/128) (by omega)]
  ·rw [kCY (by omega)]
   split
   ·simp [go (n/128/128) (by omega)]
   ·rw [kCY (by omega)]
    split
    ·simp [go (n/128/128/128) (by omega)]
    ·rw [kCY (by omega)]
     simp [go (n/128/128/128/128) (by omega)]
theorem kJV {x:Nat} (h:x<256):Value.int .u8 (IntKind.u8.wrap (x:Int))=.int .u8 ((UInt8.ofNat x).toNat:Int):=by
 rw [u8vz]
 have:((x:Int)%256).toNat=x:=by omega
 rw [this]
section
variable {P:Program} {F:Nat→Nat}
end
section
variable {P:Program}
theorem go1 {k:RK} {d:Option Nat} {g:Option (Nat×Bool)} {r:List RI} {σ:Sl} {w:World} {v:Value} {Q:Sl→World→Prop} (hg:gOk g σ=true) (hv:k.val? σ w=some v) (h:wpR P r (updo σ d v) w Q):wpR P (⟨d,k,g⟩::r) σ w Q:=by
 simp only [wpR,RI.wp,hg,if_true]
 exact kA7 hv h
theorem go0 {k:RK} {d:Option Nat} {g:Nat×Bool} {r:List RI} {σ:Sl} {w:World} {Q:Sl→World→Prop} (hg:gOk (some g) σ=false) (h:wpR P r (updo σ d undef) w Q):wpR P (⟨d,k,some g⟩::r) σ w Q:=by
 simp only [wpR,RI.wp,hg];exact h
theorem goC {k:RK} {d:Option Nat} {g:Option (Nat×Bool)} {r:List RI} {σ:Sl} {w:World} {Q:Sl→World→Prop} (hg:gOk g σ=true) (h:k.run P σ w fun v w'=>wpR P r (updo σ d v) w' Q):wpR P (⟨d,k,g⟩::r) σ w Q:=by
 simp only [wpR,RI.wp,hg,if_true];exact h
theorem wB {x:Operand} {d:Option Nat} {r:List RI} {σ:Sl} {w:World} {v:Value} {Q:Sl→World→Prop} (hx:ev σ x=v)
 (h :∀w',Blk w' w.heap.size v.cells.toList→Mod [] w w'→wpR P r (updo σ d (.pointer (some ⟨w.heap.size,0,none⟩))) w' Q):wpR P (⟨d,.box x,none⟩::r) σ w Q:=by
 subst hx
 refine kX ?_
 intro T
 exact h _ (Blk.new w _ T) (Mod.alloc _ _ _)
theorem jI {z:List Value} {d:Option Nat} {r:List RI} {σ:Sl} {w:World} {Q:Sl→World→Prop}
 (h :∀w',Blk w' w.heap.size z→Mod [] w w'→wpR P r (updo σ d (.pointer (some ⟨w.heap.size,0,none⟩))) w' Q):wpR P (⟨d,.alloc z,none⟩::r) σ w Q:=by
 refine kX ?_
 intro T
 exact h _ (Blk.new w _ T) (Mod.alloc _ _ _)
theorem goOne {x:Operand} {n:Nat} {z cs:List Value} {d:Option Nat} {r:List RI} {σ:Sl} {w:World} {Q:Sl→World→Prop} (hx:(ev σ x).cells.toList=cs) (hn:cs.length=n) (hz:z.length=n)
  (h :∀w',Blk w' w.heap.size cs→Mod [] w w'→wpR P r (updo σ d (.slice (some ⟨w.heap.size,0,none⟩) 1 1)) w' Q):wpR P (⟨d,.bslice 1 z [(0,n,x)],none⟩::r) σ w Q:=by
 refine kX ?_
 have hl:(ev σ x).cells.size=n:=by rw [←hn,←hx];simp
 have e1:zW (zrep 1 z) [(0,n,ev σ x)]=some cs:=by
  simp only [zW,zrep,List.replicate,List.flatten_cons,List.flatten_nil,List.append_nil]
  rw [if_pos ⟨hl,by omega⟩,hx]
  simp [splice,hn,hz]
 simp only [RK.run,List.map_cons,List.map_nil,e1]
 intro T
 exact h _ (Blk.new w _ T) (Mod.alloc _ _ _)
theorem goSt {a x:Operand} {n b:Nat} {r:List RI} {σ:Sl} {w:World} {v:Value} {cs:List Value} {Q:Sl→World→Prop} (ha:ev σ a=.pointer (some ⟨b,0,none⟩)) (hx:ev σ x=v) (hb:Blk w b cs) (hn:v.cells.size=n) (hl:cs.length=n)
 (h1 :∀y∈v.cells.toList,y.oneCell'=true) (h :∀w',Blk w' b v.cells.toList→Mod [b] w w'→wpR P r σ w' Q):wpR P (⟨none,.st a n x,none⟩::r) σ w Q:=by
 subst hx
 refine kX ?_
 have hl':(ev σ x).cells.toList.length=n:=by simpa using hn
 simp only [RK.run,ha]
 refine ⟨hn,qL hb (by omega) h1,h _ ?_ (Mod.put (by simp))⟩
 have:=hb.put (o:=0) (vs:=(ev σ x).cells.toList) (by omega)
 have e:splice cs 0 (ev σ x).cells.toList=(ev σ x).cells.toList:=by simp [splice,hl,hl']
 rwa [e] at this
theorem qF {f:FuncId} {args:List Operand} {d:Option Nat} {g:Option (Nat×Bool)} {r:List RI} {σ:Sl} {w:World} {Q:Sl→World→Prop} {R:Ending→World→Prop} {vs:List Value} (hg:gOk g σ=true) (ha:args.map (ev σ)=vs) (hc:Calls P f vs.toArray w R)
 (hk :∀e w',R e w' →∃v,e=.returned v∧wpR P r (updo σ d v) w' Q):wpR P (⟨d,.call f args,g⟩::r) σ w Q:=by
 subst ha
 refine goC hg ?_
 exact hc.mono fun e w' he=>hk e w' he
theorem kP {Q:Sl→World→Prop} {σ:Sl} {w:World} (h:Q σ w):wpR P [] σ w Q:=h
theorem bo1 {l:List DI} {Φ:Nat→Value→World→Prop} {w0:World} {E:Sl→Prop} {n:Nat} {k:RK} {d:Option Nat} {g:Option (Nat×Bool)} {ds:List Nat} {r:List DI} {σ:Sl} {v:Value} (hg:gOk g σ=true) (hv:k.val? σ w0=some v)
 (h:j4 P l Φ w0 E (n+1) r (updo σ d v)):j4 P l Φ w0 E n (⟨⟨d,k,g⟩,false,ds⟩::r) σ:=by
 simp only [j4,hg,if_true,hv,Bool.false_eq_true,if_false]
 exact h
theorem bo0 {l:List DI} {Φ:Nat→Value→World→Prop} {w0:World} {E:Sl→Prop} {n:Nat} {k:RK} {d:Option Nat} {g:Nat×Bool} {nd:Bool} {ds:List Nat} {r:List DI} {σ:Sl} (hg:gOk (some g) σ=false)
 (h:j4 P l Φ w0 E (n+1) r (updo σ d undef)):j4 P l Φ w0 E n (⟨⟨d,k,some g⟩,nd,ds⟩::r) σ:=by
 simp only [j4,hg,Bool.false_eq_true,if_false]
 exact h
theorem boN {l:List DI} {Φ:Nat→Value→World→Prop} {w0:World} {E:Sl→Prop} {n:Nat} {k:RK} {d:Option Nat} {g:Option (Nat×Bool)} {ds:List Nat} {r:List DI} {σ:Sl} (hg:gOk g σ=true)
 (hn :∀w,Mod [] w0 w→known l Φ ds σ w→k.run P σ w fun v w'=>Mod [] w w'∧Φ n v w') (h :∀v,(∃w,Φ n v w)→j4 P l Φ w0 E (n+1) r (updo σ d v)):j4 P l Φ w0 E n (⟨⟨d,k,g⟩,true,ds⟩::r) σ:=by
 simp only [j4,hg,if_true]
 exact ⟨hn,h⟩
theorem jB {l:List DI} {Φ:Nat→Value→World→Prop} {w0:World} {E:Sl→Prop} {n:Nat} {f:FuncId} {args:List Operand} {d:Option Nat} {g:Option (Nat×Bool)} {ds:List Nat} {r:List DI} {σ:Sl} {vs:List Value} (hg:gOk g σ=true) (ha:args.map (ev σ)=vs)
 (hn :∀w,Mod [] w0 w→known l Φ ds σ w→Calls P f vs.toArray w fun e w' =>∃v,e=.returned v∧Mod [] w w'∧Φ n v w') (h :∀v,(∃w,Φ n v w)→j4 P l Φ w0 E (n+1) r (updo σ d v)) :
 j4 P l Φ w0 E n (⟨⟨d,.call f args,g⟩,true,ds⟩::r) σ:=by
 subst ha
 exact boN hg (fun w hm hk=>hn w hm hk) h
theorem qY {l:List DI} {Φ:Nat→Value→World→Prop} {js:List Nat} {σ:Sl} {w:World} {j t:Nat} {d:DI} (h:known l Φ js σ w) (hj:j∈js) (hd:l[j]?=some d) (hn:d.node=true) (hg:gOk d.ri.guard σ=true) (ht:d.ri.dst=some t):Φ j (σ t) w :=
 h j hj d hd hn hg t ht
theorem ret1 {t:Nat} {R:Ending→World→Prop} {σ:Sl} {w:World} {v:Value} (hv:σ t=v) (h:R (.returned v) w):wpC P .ret (postC [.tmp t] R) σ w:=by
 subst hv
 simp only [wpC,postC,rvals,List.mapM_cons,List.mapM_nil,RV.val,Option.bind_eq_bind,Option.bind_some,Option.pure_def,zR]
 exact h
theorem kJW {t:Nat} {R:Ending→World→Prop} {σ:Sl} {w:World} {v:Value} (hv:σ t=v) (h:R (.returned v) w):postC [.tmp t] R .ret σ w:=by
 subst hv
 simp only [postC,rvals,List.mapM_cons,List.mapM_nil,RV.val,Option.bind_eq_bind,Option.bind_some,Option.pure_def,zR]
 exact h
theorem retN {t n b:Nat} {R:Ending→World→Prop} {σ:Sl} {w:World} {cs:List Value} (ht:σ t=.pointer (some ⟨b,0,none⟩)) (hb:Blk w b cs) (hn:cs.length=n) (h:R (.returned (.agg cs.toArray)) w):wpC P .ret (postC [.cells t n] R) σ w:=by
 have hc:=kJ hb.cells hn
 simp only [wpC,postC,rvals,List.mapM_cons,List.mapM_nil,RV.val,ht,hc,Option.map_some,Option.bind_eq_bind,Option.bind_some,Option.pure_def,zR]
 exact h
theorem kDQ {Q Q':Sl→World→Prop} (hQ :∀σ w,Q σ w→Q' σ w) :∀(l:List RI) (σ:Sl) (w:World),wpR P l σ w Q→wpR P l σ w Q'
 | [],σ,w,h=>hQ σ w h
 | i::r,σ,w,h=>by
   simp only [wpR,RI.wp] at h ⊢
   split at h
   ·rename_i hg;rw [if_pos hg];exact vO h fun v w' hk=>kDQ hQ r _ _ hk
   ·rename_i hg;rw [if_neg hg];exact kDQ hQ r _ _ h
theorem kCI {l:List DI} {R:World→World→Prop} {Φ:Nat→Value→World→Prop} {N:Nat→World→Prop} {w0:World} {E E':Sl→Prop} (hE :∀σ,E σ→E' σ) :∀(r:List DI) (k:Nat) (σ:Sl),
  walk P l R Φ N w0 E k r σ→walk P l R Φ N w0 E' k r σ
 | [],_,σ,h=>hE σ h
 | d::r,k,σ,h=>by
   simp only [walk] at h ⊢
   split at h
   ·rename_i hg;rw [if_pos hg]
    split at h
    ·rename_i hn;rw [if_pos hn];exact ⟨h.1,fun v hv=>kCI hE r _ _ (h.2 v hv)⟩
    ·rename_i hn;rw [if_neg hn];obtain ⟨v,h1,h2⟩:=h;exact ⟨v,h1,kCI hE r _ _ h2⟩
   ·rename_i hg;rw [if_neg hg];exact kCI hE r _ _ h
theorem kPM {l:List DI} {s:List RI} {σ:Sl} {w:World} {Q Q':Sl→World→Prop} (hQ :∀σ w,Q σ w→Q' σ w) (h:wpD P l s σ w Q):wpD P l s σ w Q':=by
 obtain ⟨R,Φ,N,h1,h2,h3,h4,h5⟩:=h
 exact ⟨R,Φ,N,h1,h2,h3,h4,kCI (fun σ h w hr hk=>kDQ hQ s σ w (h w hr hk)) _ _ _ h5⟩
theorem kFM {N N':Sl→World→Prop} {Q Q':Exit→Sl→World→Prop} (hN :∀σ w,N σ w→N' σ w) (hQ :∀e σ w,Q e σ w→Q' e σ w) :∀e σ w,kF N Q e σ w→kF N' Q' e σ w:=by
 intro e σ w h
 cases e with
 | normal=>exact hN σ w h
 | _=>exact hQ _ σ w h
theorem wpC_mono {Q Q':Exit→Sl→World→Prop} (hQ :∀e σ w,Q e σ w→Q' e σ w) {c:IC} {σ:Sl} {w:World} (h:wpC P c Q σ w):wpC P c Q' σ w:=by
 induction c generalizing Q Q' σ w with
 | skip=>exact hQ _ _ _ h
 | ret=>exact hQ _ _ _ h
 | blk l=>exact kDQ (hQ .normal) l σ w h
 | drw l s=>exact kPM (hQ .normal) h
 | seq a b iha ihb=>exact iha (kFM (fun σ w h=>ihb hQ h) hQ) h
 | cond c a b iha ihb =>
   simp only [wpC] at h ⊢
   split at h
   ·exact iha hQ h
   ·exact ihb hQ h
   ·exact h.elim
 | block id a ih =>
   refine ih (fun e σ w h=>?_) h
   cases e with
   | exit i=>simp only [kR] at h ⊢;split at h<;>rename_i hi<;>simp only [hi,if_true,if_false]<;>exact hQ _ _ _ h
   | _=>exact hQ _ _ _ h
 | loop a ih =>
   obtain ⟨I,μ,h0,h1⟩:=h
   exact ⟨I,μ,h0,fun σ w hi=>ih (kFM (fun _ _ h=>h) hQ) (h1 σ w hi)⟩
 | exit id=>exact hQ _ _ _ h
 | goto l=>exact hQ _ _ _ h
 | scope a ih =>
   refine ih (fun e σ w h=>?_) h
   cases e with
   | goto l=>exact h.elim
   | _=>exact hQ _ _ _ h
 | scopeTo a l r iha ihr =>
   refine iha (fun e σ w h=>?_) h
   cases e with
   | goto l'=>exact ⟨h.1,ihr (fun e σ w h=>by cases e with|goto l=>exact h.elim|_=>exact hQ _ _ _ h) h.2⟩
   | _=>exact hQ _ _ _ h
 | rnd d1 d2=>exact fun c T=>hQ _ _ _ (h c T)
 | bad=>exact h
theorem zP {N:Sl→World→Prop} {Q:Exit→Sl→World→Prop} {σ:Sl} {w:World} (h:wpC P .ret Q σ w):wpC P .ret (kF N Q) σ w:=h
theorem j3 {id:Nat} {Q:Exit→Sl→World→Prop} {σ:Sl} {w:World} (h:wpC P .ret Q σ w):wpC P .ret (kR id Q) σ w:=h
def rngP (bid bid1 c nx j:Nat) (I:Nat→Sl→World→Prop) (Q:Exit→Sl→World→Prop):Exit→Sl→World→Prop
 | .normal,σ,w=>σ c=.int .i64 (j:Nat)∧I (j+1) (upd (upd σ nx (.int .i64 ((j+1:Nat):Int))) c (.int .i64 ((j+1:Nat):Int))) w
 | .exit i,σ,w=>if i=bid1 then σ c=.int .i64 (j:Nat)∧I (j+1) (upd (upd σ nx (.int .i64 ((j+1:Nat):Int))) c (.int .i64 ((j+1:Nat):Int))) w else if i=bid then Q .normal σ w else Q (.exit i) σ w
 | e,σ,w=>Q e σ w
theorem xR {n:Nat} (h:n<9223372036854775808):IntKind.i64.wrap (n:Int)=n:=by
 simp only [IntKind.wrap,IntKind.bits,IntKind.signed]
 simp
 omega
theorem kQR {bid bid1 c nx j:Nat} {I:Nat→Sl→World→Prop} {Q:Exit→Sl→World→Prop} {σ:Sl} {w:World} (h:wpC P .ret Q σ w):wpC P .ret (rngP bid bid1 c nx j I Q) σ w:=h
theorem rangeLoop {c nl nx b bid bid1 n:Nat} {body:IC} {Q:Exit→Sl→World→Prop} {σ:Sl} {w:World} (I:Nat→Sl→World→Prop) (hn:n<9223372036854775807) (_hne:bid≠bid1)
  (hI :∀j σ w,I j σ w→σ c=.int .i64 (j:Nat)∧σ nl=.int .i64 (n:Nat)) (h0:I 0 σ w)
  (hstep :∀j σ w,j<n→I j σ w→wpC P body (rngP bid bid1 c nx j I Q) (upd σ b (.bool true)) w)
  (hend :∀σ w,I n σ w→Q .normal (upd σ b (.bool false)) w) :
  wpC P (.block bid (.loop (.seq (.blk [⟨some b,.bin .lss (.tmp c) (.tmp nl),none⟩]) (.seq (.cond (.tmp b) .skip (.exit bid)) (.seq (.block bid1 body) (.blk [⟨some nx,.bin .add (.tmp c) (.const (.int .i64 1)),none⟩,⟨some c,.mv (.tmp nx),none⟩])))))) Q σ w:=by
 rw [wpC_block,wpC_loop]
 refine ⟨fun σ w =>∃j,j≤n∧I j σ w,fun σ _=>n-(match σ c with|.int _ j=>j.toNat|_=>0),⟨0,Nat.zero_le _,h0⟩,?_⟩
 rintro σ w ⟨j,hj,hi⟩
 obtain ⟨ec,el⟩:=hI j σ w hi
 rw [wpC_seq,kD]
 refine go1 (v:=.bool (decide ((j:Int)<n))) rfl (by simp [RK.val?,ev,ec,el,kM]) ?_
 refine kP ?_
 simp only [kF,updo]
 rw [wpC_seq]
 by_cases hlt:j<n
 ·have e1:decide ((j:Int)<n)=true:=by simp [hlt]
  rw [e1,kI (by simp [ev,upd]),wpC_skip]
  simp only [kF]
  rw [wpC_seq,wpC_block]
  refine wpC_mono ?_ (hstep j σ w hlt hi)
  have key :∀σ' w',(σ' c=.int .i64 (j:Nat)∧I (j+1) (upd (upd σ' nx (.int .i64 ((j+1:Nat):Int))) c (.int .i64 ((j+1:Nat):Int))) w') →
    wpC P (.blk [⟨some nx,.bin .add (.tmp c) (.const (.int .i64 1)),none⟩,⟨some c,.mv (.tmp nx),none⟩])
     (kF (fun σ' w'=>(∃j,j≤n∧I j σ' w')∧(n-(match σ' c with|.int _ j=>j.toNat|_=>0))<(n-(match σ c with|.int _ j=>j.toNat|_=>0))) (kR bid Q)) σ' w':=by
   rintro σ' w' ⟨k1,k2⟩
   rw [kD]
   refine go1 (v:=.int .i64 ((j+1:Nat):Int)) rfl (by
    simp only [RK.val?,ev,k1,kL,decide_true,Bool.or_true,if_true,kM]
    rw [show (j:Int)+1=((j+1:Nat):Int) by omega,xR (by omega)]) ?_
   refine go1 (v:=.int .i64 ((j+1:Nat):Int)) rfl (by simp [RK.val?,ev,updo,upd]) ?_
   refine kP ?_
   simp only [kF,updo]
   refine ⟨⟨j+1,by omega,k2⟩,?_⟩
   simp only [upd_same,ec,Int.toNat_natCast]
   have:n-(j+1)<n-j:=by omega
   exact this
  intro e σ' w' he
  cases e with
  | normal=>exact key σ' w' he
  | exit i =>
    simp only [rngP] at he
    simp only [kR]
    split at he
    ·rename_i e1;rw [if_pos e1];exact key σ' w' he
    ·rename_i e1
     rw [if_neg e1]
     simp only [kF,kR]
     exact he
  | _=>exact he
 ·have e1:decide ((j:Int)<n)=false:=by simp;omega
  have:j=n:=by omega
  subst this
  rw [e1,kG (by simp [ev,upd])]
  simp only [wpC,kF,kR,if_true]
  exact hend σ w hi
end
def ir_sHas (_F:Nat→Nat):IC×List RV×Nat:=(.seq (.blk [⟨some 2,.box (.tmp 0),none⟩,⟨some 4,.mv (.const (.bool false)),none⟩]) (.seq (.blk [⟨some 5,.fad (.tmp 2) 1,none⟩,
 ⟨some 6,.ld (.tmp 5),none⟩,⟨some 7,.mv (.tmp 1),none⟩,⟨some 8,.bin .leq (.tmp 6) (.tmp 7),none⟩,⟨some 9,.mv (.tmp 8),none⟩,⟨some 10,.fad (.tmp 2) 2,some (9,true)⟩,
 ⟨some 11,.ld (.tmp 10),some (9,true)⟩,⟨some 12,.bin .lss (.tmp 11) (.const (.int .i64 0)),some (9,true)⟩,⟨some 13,.mv (.tmp 12),some (9,true)⟩,
 ⟨some 14,.mv (.tmp 1),some (13,false)⟩,⟨some 15,.fad (.tmp 2) 2,some (13,false)⟩,⟨some 16,.ld (.tmp 15),some (13,false)⟩,⟨some 17,.bin .leq (.tmp 14) (.tmp 16),some (13,false)⟩,
 ⟨some 18,.pick (.tmp 13) (.const (.bool true)) (.tmp 17),some (9,true)⟩,⟨some 19,.pick (.tmp 9) (.tmp 18) (.const (.bool false)),none⟩,⟨some 4,.mv (.tmp 19),none⟩]) (.ret)),
 [.tmp 4],20)
def ir_sNull (_F:Nat→Nat):IC×List RV×Nat:=(.seq (.blk [⟨some 3,.box (.tmp 0),none⟩,⟨some 5,.box (.tmp 2),none⟩,⟨some 6,.mv (.const (.bool false)),none⟩])
 (.seq (.blk [⟨some 7,.fad (.tmp 5) 2,none⟩,⟨some 8,.ld (.tmp 7),none⟩,⟨some 9,.mv (.tmp 8),none⟩,⟨some 10,.fad (.tmp 3) 3,some (9,true)⟩,⟨some 11,.ld (.tmp 10),some (9,true)⟩,
 ⟨some 12,.bin .geq (.tmp 11) (.const (.int .i64 0)),some (9,true)⟩,⟨some 13,.pick (.tmp 9) (.tmp 12) (.const (.bool false)),none⟩,⟨some 14,.mv (.tmp 13),none⟩,
 ⟨some 15,.mv (.tmp 1),some (14,true)⟩,⟨some 16,.fad (.tmp 3) 3,some (14,true)⟩,⟨some 17,.ld (.tmp 16),some (14,true)⟩,⟨some 18,.bin .geq (.tmp 15) (.tmp 17),some (14,true)⟩,
 ⟨some 19,.pick (.tmp 14) (.tmp 18) (.const (.bool false)),none⟩,⟨some 6,.mv (.tmp 19),none⟩]) (.ret)),[.tmp 6],20)
def ir_sFlexible (_F:Nat→Nat):IC×List RV×Nat:=(.seq (.blk [⟨some 2,.box (.tmp 0),none⟩,⟨some 4,.mv (.const (.bool false)),none⟩]) (.seq (.blk [⟨some 5,.fad (.tmp 2) 1,none⟩,
 ⟨some 6,.ld (.tmp 5),none⟩,⟨some 7,.bin .geq (.tmp 6) (.const (.int .i64 0)),none⟩,⟨some 8,.mv (.tmp 7),none⟩,⟨some 9,.mv (.tmp 1),some (8,true)⟩,
 ⟨some 10,.fad (.tmp 2) 1,some (8,true)⟩,⟨some 11,.ld (.tmp 10),some (8,true)⟩,⟨some 12,.bin .geq (.tmp 9) (.tmp 11),some (8,true)⟩,
 ⟨some 13,.pick (.tmp 8) (.tmp 12) (.const (.bool false)),none⟩,⟨some 4,.mv (.tmp 13),none⟩]) (.ret)),[.tmp 4],14)
def ir_sWhole (_F:Nat→Nat):IC×List RV×Nat:=(.seq (.blk [⟨some 2,.mv (.const (.slice none 0 0)),none⟩]) (.seq (.blk [⟨some 3,.mv (.tmp 0),none⟩,⟨some 4,.mv (.tmp 0),none⟩,
 ⟨some 5,.len (.tmp 4),none⟩,⟨some 6,.mm false (.tmp 5) (.const (.int .i64 32767)),none⟩,⟨some 7,.slice (.tmp 3) none (some (.tmp 6)) none 1,none⟩,⟨some 2,.mv (.tmp 7),none⟩])
 (.ret)),[.tmp 2],8)
def ir_sThings (_F:Nat→Nat):IC×List RV×Nat:=(.seq (.blk [⟨some 2,.mv (.const (.slice none 0 0)),none⟩]) (.seq (.blk [⟨some 3,.mv (.tmp 0),none⟩,⟨some 4,.mv (.tmp 0),none⟩,
 ⟨some 5,.len (.tmp 4),none⟩,⟨some 6,.mm false (.tmp 5) (.const (.int .i64 32767)),none⟩,⟨some 7,.slice (.tmp 3) none (some (.tmp 6)) none 5,none⟩,⟨some 2,.mv (.tmp 7),none⟩])
 (.ret)),[.tmp 2],8)
def ir_sAt (_F:Nat→Nat):IC×List RV×Nat:=(.seq (.blk [⟨some 2,.box (.tmp 0),none⟩,⟨some 4,.alloc [.int .i64 0,.slice none 0 0,.bool false,.slice none 0 0,.slice none 0 0],none⟩])
 (.seq (.seq (.blk [⟨some 5,.mv (.tmp 1),none⟩,⟨some 6,.fad (.tmp 2) 3,none⟩,⟨some 7,.ld (.tmp 6),none⟩,⟨some 8,.len (.tmp 7),none⟩,⟨some 9,.bin .lss (.tmp 5) (.tmp 8),none⟩])
 (.cond (.tmp 9) (.seq (.blk [⟨some 10,.fad (.tmp 2) 3,none⟩,⟨some 11,.ld (.tmp 10),none⟩,⟨some 12,.mv (.tmp 1),none⟩,⟨some 13,.iad (.tmp 11) (.tmp 12) 5,none⟩,
 ⟨some 14,.ldn (.tmp 13) 5,none⟩,⟨none,.st (.tmp 4) 5 (.tmp 14),none⟩]) (.ret)) (.skip)))
 (.seq (.blk [⟨some 15,.build [.int .i64 0,.slice none 0 0,.bool false,.slice none 0 0,.slice none 0 0] [],none⟩,⟨none,.st (.tmp 4) 5 (.tmp 15),none⟩]) (.ret))),[.cells 4 5],16)
def ir_sUvarint (_F:Nat→Nat):IC×List RV×Nat:=(.seq (.blk [⟨some 2,.mv (.const (.slice none 0 0)),none⟩]) (.seq (.blk [⟨some 3,.mv (.const (.slice none 0 0)),none⟩])
 (.seq (.block 0 (.loop (.seq (.seq (.blk [⟨some 4,.mv (.tmp 0),none⟩,⟨some 5,.bin .gtr (.tmp 4) (.const (.int .u64 127)),none⟩]) (.cond (.tmp 5) (.skip) (.exit 0)))
 (.block 1 (.seq (.blk [⟨some 6,.mv (.tmp 3),none⟩,⟨some 7,.mv (.tmp 0),none⟩,⟨some 8,.bin .and (.tmp 7) (.const (.int .u64 127)),none⟩,⟨some 9,.conv .u8 (.tmp 8),none⟩,
 ⟨some 10,.bin .or (.tmp 9) (.const (.int .u8 128)),none⟩,⟨some 11,.bslice 1 [.int .u8 0] [(0,1,.tmp 10)],none⟩,⟨some 12,.append (.tmp 6) (.tmp 11) 1 1,none⟩,
 ⟨some 3,.mv (.tmp 12),none⟩]) (.blk [⟨some 13,.mv (.tmp 0),none⟩,⟨some 14,.bin .shr (.tmp 13) (.const (.int .u64 7)),none⟩,⟨some 0,.mv (.tmp 14),none⟩]))))))
 (.seq (.blk [⟨some 15,.mv (.tmp 3),none⟩,⟨some 16,.mv (.tmp 0),none⟩,⟨some 17,.conv .u8 (.tmp 16),none⟩,⟨some 18,.bslice 1 [.int .u8 0] [(0,1,.tmp 17)],none⟩,
 ⟨some 19,.append (.tmp 15) (.tmp 18) 1 1,none⟩,⟨some 2,.mv (.tmp 19),none⟩]) (.ret)))),[.tmp 2],20)
def ir_sFixed (_F:Nat→Nat):IC×List RV×Nat:=(.seq (.blk [⟨some 4,.mv (.const (.slice none 0 0)),none⟩]) (.seq (.blk [⟨some 5,.mv (.const (.slice none 0 0)),none⟩])
 (.seq (.seq (.blk [⟨some 7,.mv (.tmp 1),none⟩,⟨some 8,.bin .sub (.tmp 7) (.const (.int .i64 1)),none⟩,⟨some 6,.mv (.tmp 8),none⟩])
 (.block 0 (.loop (.seq (.seq (.blk [⟨some 9,.mv (.tmp 6),none⟩,⟨some 10,.bin .geq (.tmp 9) (.const (.int .i64 0)),none⟩]) (.cond (.tmp 10) (.skip) (.exit 0)))
 (.seq (.block 1 (.blk [⟨some 13,.mv (.tmp 5),none⟩,⟨some 14,.mv (.tmp 0),none⟩,⟨some 15,.mv (.tmp 6),none⟩,⟨some 16,.bin .mul (.const (.int .i64 8)) (.tmp 15),none⟩,
 ⟨some 17,.bin .shr (.tmp 14) (.tmp 16),none⟩,⟨some 18,.conv .u8 (.tmp 17),none⟩,⟨some 19,.bslice 1 [.int .u8 0] [(0,1,.tmp 18)],none⟩,
 ⟨some 20,.append (.tmp 13) (.tmp 19) 1 1,none⟩,⟨some 5,.mv (.tmp 20),none⟩])) (.blk [⟨some 11,.mv (.tmp 6),none⟩,⟨some 12,.bin .sub (.tmp 11) (.const (.int .i64 1)),none⟩,
 ⟨some 6,.mv (.tmp 12),none⟩])))))) (.seq (.blk [⟨some 21,.mv (.tmp 5),none⟩,⟨some 4,.mv (.tmp 21),none⟩]) (.ret)))),[.tmp 4],22)
def ir_sWidth (_F:Nat→Nat):IC×List RV×Nat:=(.seq (.blk [⟨some 2,.mv (.const (.int .i64 0)),none⟩]) (.seq (.seq (.blk [⟨some 3,.mv (.tmp 0),none⟩])
 (.block 0 (.seq (.blk [⟨some 5,.bin .eql (.tmp 3) (.const (.int .i64 1)),none⟩,⟨some 4,.mv (.tmp 5),none⟩]) (.cond (.tmp 4) (.seq (.blk [⟨some 2,.mv (.const (.int .i64 1)),none⟩])
 (.ret)) (.seq (.seq (.blk [⟨some 7,.bin .eql (.tmp 3) (.const (.int .i64 2)),none⟩,⟨some 6,.mv (.tmp 7),none⟩]) (.cond (.tmp 6) (.skip)
 (.blk [⟨some 8,.bin .eql (.tmp 3) (.const (.int .i64 5)),none⟩,⟨some 6,.mv (.tmp 8),none⟩]))) (.cond (.tmp 6) (.seq (.blk [⟨some 2,.mv (.const (.int .i64 2)),none⟩]) (.ret))
 (.seq (.blk [⟨some 10,.bin .eql (.tmp 3) (.const (.int .i64 3)),none⟩,⟨some 9,.mv (.tmp 10),none⟩]) (.cond (.tmp 9) (.seq (.blk [⟨some 2,.mv (.const (.int .i64 4)),none⟩]) (.ret))
 (.skip))))))))) (.seq (.blk [⟨some 2,.mv (.const (.int .i64 8)),none⟩]) (.ret))),[.tmp 2],11)
def ir_sCounted (F:Nat→Nat):IC×List RV×Nat:=(.seq (.blk [⟨some 8,.mv (.const (.slice none 0 0)),none⟩]) (.seq (.block 0 (.seq (.blk [⟨some 10,.mv (.tmp 0),none⟩,
 ⟨some 11,.mv (.tmp 10),none⟩,⟨some 12,.mv (.tmp 1),some (11,true)⟩,⟨some 13,.pick (.tmp 11) (.tmp 12) (.const (.bool false)),none⟩,⟨some 9,.mv (.tmp 13),none⟩]) (.cond (.tmp 9)
 (.seq (.blk [⟨some 14,.bslice 1 [.int .u8 0] [(0,1,.const (.int .u8 0))],none⟩,⟨some 8,.mv (.tmp 14),none⟩]) (.ret)) (.seq (.blk [⟨some 16,.mv (.tmp 0),none⟩,
 ⟨some 15,.mv (.tmp 16),none⟩]) (.cond (.tmp 15) (.seq (.blk [⟨some 17,.mv (.tmp 2),none⟩,⟨some 18,.conv .u64 (.tmp 17),none⟩,
 ⟨some 19,.bin .add (.tmp 18) (.const (.int .u64 1)),none⟩,⟨some 20,.call (F z8) [.tmp 19],none⟩,⟨some 8,.mv (.tmp 20),none⟩]) (.ret)) (.seq (.blk [⟨some 22,.mv (.tmp 1),none⟩,
 ⟨some 21,.mv (.tmp 22),none⟩]) (.cond (.tmp 21) (.seq (.blk [⟨some 23,.mv (.tmp 3),none⟩,⟨some 24,.call (F yU) [.const (.int .i64 (-1)),.tmp 23],none⟩,
 ⟨some 8,.mv (.tmp 24),none⟩]) (.ret)) (.skip)))))))) (.seq (.blk [⟨some 25,.mv (.tmp 2),none⟩,⟨some 26,.mv (.tmp 3),none⟩,⟨some 27,.call (F yU) [.tmp 25,.tmp 26],none⟩,
 ⟨some 8,.mv (.tmp 27),none⟩]) (.ret))),[.tmp 8],28)
end Go.Msk
namespace Go.Msk
open Go.RowKit
set_option maxRecDepth 100000
def TR.n:TR→Int|.mk n _ _ _ _=>n
def TR.s:TR→List UInt8|.mk _ s _ _ _=>s
def TR.null:TR→Bool|.mk _ _ b _ _=>b
def TR.l:TR→List TR|.mk _ _ _ l _=>l
def TR.u:TR→List (Nat×List UInt8)|.mk _ _ _ _ u=>u
def TR.at (t:TR) (i:Nat):TR:=(t.l[i]?).getD .zero
inductive FD where
 | mk (kind frm to null tag dfl of:Int) (sub:List FD)
 deriving Inhabited
def FD.kind:FD→Int|.mk k _ _ _ _ _ _ _=>k
def FD.frm:FD→Int|.mk _ k _ _ _ _ _ _=>k
def FD.to:FD→Int|.mk _ _ k _ _ _ _ _=>k
def FD.null:FD→Int|.mk _ _ _ k _ _ _ _=>k
def FD.tag:FD→Int|.mk _ _ _ _ k _ _ _=>k
def FD.of:FD→Int|.mk _ _ _ _ _ _ k _=>k
def FD.sub:FD→List FD|.mk _ _ _ _ _ _ _ k=>k
mutual
inductive RepF (ok:Nat→Prop) (w:World):FD→List Value→Prop
 | mk {kind frm to null tag dfl of:Int} {sub:List FD} {sv:Value} {css:List (List Value)}:SlC ok w sv sub.length css.flatten→jU ok w sub css →
 RepF ok w (.mk kind frm to null tag dfl of sub) [.int .i64 kind,.int .i64 frm,.int .i64 to,.int .i64 null,.int .i64 tag,.int .i64 dfl,.int .i64 of,sv]
inductive jU (ok:Nat→Prop) (w:World):List FD→List (List Value)→Prop
 | nil:jU ok w [] []
 | cons {f:FD} {l:List FD} {cs:List Value} {css:List (List Value)}:RepF ok w f cs→jU ok w l css→jU ok w (f::l) (cs::css)
end
theorem RepF.mod {ok ok':Nat→Prop} {S:List Nat} {w w':World} (hm:Mod S w w') (hS :∀b∈S,¬ok b) (ho :∀b,b<w.heap.size→ok b→ok' b) {t:FD} {cs:List Value} (h:RepF ok w t cs):RepF ok' w' t cs:=by
 refine RepF.rec (motive_1:=fun t cs _=>RepF ok' w' t cs) (motive_2:=fun l css _=>jU ok' w' l css) ?_ ?_ ?_ h
 ·intro kind frm to null tag dfl of sub sv css h1 _ ih
  exact .mk (h1.mod hm hS ho) ih
 ·exact .nil
 ·intro t l cs css _ _ ih1 ih2;exact .cons ih1 ih2
theorem jU.mod {ok ok':Nat→Prop} {S:List Nat} {w w':World} (hm:Mod S w w') (hS :∀b∈S,¬ok b) (ho :∀b,b<w.heap.size→ok b→ok' b) {l:List FD} {css:List (List Value)} (h:jU ok w l css):jU ok' w' l css:=by
 induction l generalizing css with
 | nil=>cases h;exact .nil
 | cons t l ih=>cases h with|cons h1 h2=>exact .cons (h1.mod hm hS ho) (ih h2)
theorem RepF.eight {ok:Nat→Prop} {w:World} {t:FD} {cs:List Value} (h:RepF ok w t cs):cs.length=8:=by cases h;rfl
theorem jU.eight {ok:Nat→Prop} {w:World} {l:List FD} {css:List (List Value)} (h:jU ok w l css) :∀cs∈css,cs.length=8:=by
 induction l generalizing css with
 | nil=>cases h;simp
 | cons g l ih =>
 cases h with
 | cons h1 h2 =>
 intro cs hc
 rcases List.mem_cons.1 hc with rfl|hc
 ·exact h1.eight
 ·exact ih h2 cs hc
theorem jU.length {ok:Nat→Prop} {w:World} {l:List FD} {css:List (List Value)} (h:jU ok w l css):l.length=css.length:=by
 induction l generalizing css with
 | nil=>cases h;rfl
 | cons g l ih=>cases h with|cons h1 h2=>simp [ih h2]
theorem RepF.oneCell {ok:Nat→Prop} {w:World} {t:FD} {cs:List Value} (h:RepF ok w t cs) :∀v∈cs,v.oneCell'=true:=by
 cases h with
 | mk h1 h2 =>
 intro v hv
 simp only [List.mem_cons,List.not_mem_nil,or_false] at hv
 rcases hv with rfl|rfl|rfl|rfl|rfl|rfl|rfl|rfl
 all_goals first|rfl|exact h1.one
theorem jU.nth {ok:Nat→Prop} {w:World} {l:List FD} {css:List (List Value)} (h:jU ok w l css) {j:Nat} {t:FD} (ht:l[j]?=some t) :∃cs,css[j]?=some cs∧RepF ok w t cs:=by
 induction l generalizing css j with
 | nil=>simp at ht
 | cons a l ih =>
 cases h with
 | cons h1 h2 =>
 cases j with
 | zero=>simp only [List.getElem?_cons_zero,Option.some.injEq] at ht;subst ht;exact ⟨_,rfl,h1⟩
 | succ j=>simp only [List.getElem?_cons_succ] at ht ⊢;exact ih h2 ht
def fzero:List Value:=[.int .i64 0,.int .i64 0,.int .i64 0,.int .i64 0,.int .i64 0,.int .i64 0,.int .i64 0,.slice none 0 0]
abbrev anyB:Nat→Prop:=fun _=>True
theorem SlC.any {ok:Nat→Prop} {w:World} {v:Value} {n:Nat} {cs:List Value} (h:SlC ok w v n cs):SlC anyB w v n cs:=h.mod (Mod.refl [] w) (by simp) fun _ _ _=>trivial
theorem SlC.keep {w w':World} {v:Value} {n:Nat} {cs:List Value} (h:SlC anyB w v n cs) (hm:Mod [] w w'):SlC anyB w' v n cs:=h.mod hm (by simp) fun _ _ _=>trivial
theorem RepT.any {ok:Nat→Prop} {w:World} {t:TR} {cs:List Value} (h:RepT ok w t cs):RepT anyB w t cs:=h.mod (Mod.refl [] w) (by simp) fun _ _ _=>trivial
theorem RepT.keep {w w':World} {t:TR} {cs:List Value} (h:RepT anyB w t cs) (hm:Mod [] w w'):RepT anyB w' t cs:=h.mod hm (by simp) fun _ _ _=>trivial
theorem jN.keep {w w':World} {t:List TR} {cs:List (List Value)} (h:jN anyB w t cs) (hm:Mod [] w w'):jN anyB w' t cs:=h.mod hm (by simp) fun _ _ _=>trivial
theorem RepU.keep {w w':World} {t:List (Nat×List UInt8)} {cs:List (List Value)} (h:RepU anyB w t cs) (hm:Mod [] w w'):RepU anyB w' t cs:=h.mod hm (by simp) fun _ _ _=>trivial
theorem RepF.keep {w w':World} {t:FD} {cs:List Value} (h:RepF anyB w t cs) (hm:Mod [] w w'):RepF anyB w' t cs:=h.mod hm (by simp) fun _ _ _=>trivial
theorem jU.keep {w w':World} {t:List FD} {cs:List (List Value)} (h:jU anyB w t cs) (hm:Mod [] w w'):jU anyB w' t cs:=h.mod hm (by simp) fun _ _ _=>trivial
theorem SlC.src {ok:Nat→Prop} {w:World} {v:Value} {l:List UInt8} (h:SlC ok w v l.length (u8s l)):qI w 1 v=some (l.length,u8s l):=by
 obtain ⟨base,cap,rfl,h2,h3,h4⟩:=h
 cases base with
 | none=>have:=h3 rfl;have:l=[]:=List.length_eq_zero_iff.1 (by omega);subst this;simp [qI,u8s]
 | some a =>
   by_cases hc0:0<cap
   ·simp only [qI,Nat.mul_one]
    rw [kJ (h4 a rfl hc0).2.2 (kY l)];rfl
   ·have:l=[]:=List.length_eq_zero_iff.1 (by omega)
    subst this;simp [qI,kV,u8s]
theorem DRaw.src {w:World} {n0:Nat} {v:Value} {l:List UInt8} (h:DRaw w n0 v l):qI w 1 v=some (l.length,u8s l):=h.slc.src
theorem slice_head {ok:Nat→Prop} {x y:Operand} {sz n k:Nat} {σ:Sl} {w:World} {v:Value} {cells:List Value} (hx:ev σ x=v) (hy:ev σ y=.int .i64 (k:Nat)) (h:SlC ok w v n cells) (hk:k≤n) :
  ∃v',(RK.slice x none (some y) none sz).val? σ w=some v'∧SlC ok w v' k (cells.take (k*sz)):=by
 obtain ⟨base,cap,rfl,h2,h3,h4⟩:=h
 simp only [RK.val?,hx,bnd,hy]
 rw [if_pos ⟨by omega,by omega,by omega,by omega⟩]
 simp only [Int.toNat_natCast,Int.toNat_zero,Nat.sub_zero,Nat.zero_mul]
 refine ⟨_,rfl,_,_,rfl,by omega,?_,?_⟩
 ·intro hn
  split at hn
  ·rename_i h;simpa using h
  ·cases base with
   | none=>exact h3 rfl
   | some a=>simp at hn
 ·intro a ha hc0
  split at ha
  ·obtain ⟨k1,k2,k3⟩:=h4 a ha (by simpa using hc0)
   exact ⟨k1,k2,k3.take _⟩
  ·cases base with
   | none=>simp at ha
   | some b =>
     obtain ⟨k1,k2,k3⟩:=h4 b rfl (by simpa using hc0)
     simp only [Option.map_some,Option.some.injEq] at ha
     subst ha
     rw [Addr.kC7 k3.1]
     exact ⟨k1,k2,by have:=k3.take (k*sz);obtain ⟨b,o,s⟩:=b;have e:=k3.1;simp only at e;subst e;exact this⟩
def uY (w:World) (l:List UInt8):Ending→World→Prop:=fun e w' =>∃v,e=.returned v∧DRaw w' w.heap.size v l∧Mod [] w w'
theorem AppD.mod0 {w0 w w':World} {v v':Value} {l l':List UInt8} (h:AppD w0.heap.size w v w' v' l') (hd:DRaw w w0.heap.size v l) (hm:Mod [] w0 w):Mod [] w0 w':=by
 have:=h.mod
 cases ho:ownB v with
 | none=>rw [ho] at this;exact hm.trans this.nil
 | some b =>
 rw [ho] at this
 exact Mod.drop (b:=b) (S:=[]) ((hm.mono (by simp)).trans (this.mono (by simp))) (hd.own ho).1
theorem DRaw.nil (w:World) (n:Nat):DRaw w n (.slice none 0 0) []:=⟨.inl ⟨rfl,rfl⟩⟩
theorem DRaw.keep {w w':World} {n0:Nat} {v:Value} {l:List UInt8} (h:DRaw w n0 v l) (hm:Mod [] w w'):DRaw w' n0 v l:=h.mod hm (by simp)
theorem DRaw.low {w:World} {n0 n1:Nat} {v:Value} {l:List UInt8} (h:DRaw w n0 v l) (hn:n1≤n0):DRaw w n1 v l :=
 ⟨h.sl.imp id fun ⟨B,cap,rest,h1,h2,h3,h4,h5⟩=>⟨B,cap,rest,h1,h2,Nat.le_trans hn h3,h4,h5⟩⟩
def kN (l:List UInt8):List UInt8:=l.take 32767
theorem kJX (n:Nat):(if (32767:Int)<(n:Int) then (32767:Int) else (n:Int))=((min n 32767:Nat):Int):=by
 split<;>omega
section
variable {P:Program} {F:Nat→Nat}
attribute [local simp] gOk updo upd ev RK.val? kL kM Addr.kK qE Value.cells undef
theorem wQ (hm:P.follows .mixedOrders=true) (h:kH P (F yR)=some (ir_sWhole F)) {ok:Nat→Prop} {w:World} {v:Value} {l:List UInt8} (hv:SlC ok w v l.length (u8s l)) :
  Calls P (F yR) [v].toArray w fun e w'=>w'=w ∧∃v',e=.returned v'∧SlC ok w v' (kN l).length (u8s (kN l)):=by
 unfold ir_sWhole at h
 refine kT h hm (by simp) ?_
 obtain ⟨b,c,rfl⟩:=hv.shape
 rw [wpC_seq,kD]
 refine go1 rfl rfl (kE ?_)
 rw [wpC_seq,kD]
 refine go1 rfl rfl (go1 rfl rfl ?_)
 refine go1 (v:=.int .i64 l.length) rfl (by simp) ?_
 refine go1 (v:=.int .i64 ((min l.length 32767:Nat):Int)) rfl (by simp [kJX]) ?_
 obtain ⟨v',e1,h1⟩:=slice_head (x:=.tmp 3) (y:=.tmp 6) (sz:=1) (σ:=upd (upd (upd (upd (upd (qE [.slice b l.length c]) 2 (.slice none 0 0)) 3 (.slice b l.length c)) 4 (.slice b l.length c)) 5 (.int .i64 l.length)) 6 (.int .i64 ((min l.length 32767:Nat):Int))) (k:=min l.length 32767) (by simp) (by simp) hv (by omega)
 refine go1 (v:=v') rfl e1 ?_
 refine go1 (v:=v') rfl (by simp) (kE (ret1 (v:=v') (by simp) ⟨rfl,v',rfl,?_⟩))
 have e2:(kN l).length=min l.length 32767:=by simp [kN,Nat.min_comm]
 have e3:u8s (kN l)=(u8s l).take (min l.length 32767*1):=by
  rw [Nat.mul_one,kN,kGB]
  by_cases hl:l.length≤32767
  ·rw [List.take_of_length_le (by rw [kY];omega),List.take_of_length_le (by rw [kY];omega)]
  ·rw [Nat.min_eq_right (by omega)]
 rw [e2,e3];exact h1
theorem kGU (hm:P.follows .mixedOrders=true) (h:kH P (F sHas)=some (ir_sHas F)) {ok:Nat→Prop} {w:World} {f:FD} {cs:List Value} {ver:Int} (hf:RepF ok w f cs) :
  Calls P (F sHas) [.agg cs.toArray,.int .i64 ver].toArray w fun e w'=>e=.returned (.bool (decide (f.frm≤ver)&&(decide (f.to<0)||decide (ver≤f.to))))∧Mod [] w w':=by
 cases hf with
 | @mk kind frm to null tag dfl of sub sv css h1 h2 =>
 unfold ir_sHas at h
 refine kT h hm (by simp) ?_
 rw [wpC_seq,kD]
 refine wB rfl fun w1 hb1 hm1=>?_
 have c1:=fun k=>hb1.cell k
 refine go1 rfl rfl (kE ?_)
 rw [wpC_seq,kD]
 clear h
 by_cases e1:frm≤ver
 ·by_cases e2:to<0
  ·iterate 16 (first|(apply go1;(· simp []);(· simp [c1,e1,e2]<;>rfl))|(apply go0;(· simp [])))
   exact kE (ret1 rfl (by simp [FD.frm,FD.to,e1,e2,hm1]<;>rfl))
  ·iterate 16 (first|(apply go1;(· simp []);(· simp [c1,e1,e2]<;>rfl))|(apply go0;(· simp [e1,e2])))
   exact kE (ret1 rfl (by simp [FD.frm,FD.to,e1,e2,hm1]<;>rfl))
 ·iterate 16 (first|(apply go1;(· simp []);(· simp [c1,e1]<;>rfl))|(apply go0;(· simp [])))
  exact kE (ret1 rfl (by simp [FD.frm,e1,hm1]))
end
end Go.Msk
