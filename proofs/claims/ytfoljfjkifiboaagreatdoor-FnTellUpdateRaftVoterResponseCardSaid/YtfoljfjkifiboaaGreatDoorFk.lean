/- A small language of resolved operations, and what the generic and the generated functions do in it (part 11). -/
import Derived.Test.YtfoljfjkifiboaaGreatDoorFj
namespace Go.Msk
open Go.RowKit
set_option maxRecDepth 100000
def FD.hasV (f:FD) (ver:Int):Bool:=decide (f.frm≤ver)&&(decide (f.to<0)||decide (ver≤f.to))
def FD.jR (f:FD) (ver:Int) (t:TR):Bool:=t.null&&(decide (f.null≥0)&&decide (ver≥f.null))
def zJ (k:Int):Nat:=if k=1 then 1 else if k=2∨k=5 then 2 else if k=3 then 4 else 8
def zD (flex null:Bool) (n size:Nat):List UInt8:=if flex then (if null then [0] else uvE (n+1)) else (if null then beI size (-1) else beI size n)
theorem kID (k : Int) : zJ k ≤ 8 := by unfold zJ;repeat' split
                                       all_goals omega
theorem kAO {n:Nat} :∀(css:List (List Value)) (k:Nat),(∀c∈css,c.length=n)→css.flatten.take (k*n)=(css.take k).flatten
 | [],k,_=>by simp
 | c::css,0,_=>by simp
 | c::css,k+1,h=>by
   have hc:=h c (by simp)
   have ih:=kAO css k (fun x hx=>h x (by simp [hx]))
   simp only [List.flatten_cons,List.take_succ_cons]
   have e:(k+1)*n=c.length+k*n:=by rw [hc,Nat.add_mul];omega
   rw [e,List.take_length_add_append,ih]
theorem jN.take {ok:Nat→Prop} {w:World} :∀{l:List TR} {css:List (List Value)} (_:jN ok w l css) (k:Nat),jN ok w (l.take k) (css.take k)
 | _,_,.nil,k=>by simp;exact .nil
 | _,_,.cons h1 h2,0=>by simp;exact .nil
 | _,_,.cons h1 h2,k+1=>by simp only [List.take_succ_cons];exact .cons h1 (h2.take k)
theorem shr_i64 (n:Int) (k:Nat) (hk:k≤64):kM .shr .i64 n (k:Nat)=some (.int .i64 (n/2^k)):=by
 simp only [kM]
 rw [if_neg (by omega)]
 have:min (k:Int).toNat IntKind.i64.bits=k:=by show min (k:Int).toNat 64=k;omega
 rw [this,Int.fdiv_eq_ediv_of_nonneg _ (by exact Int.le_of_lt (Int.pow_pos (by omega)))]
theorem pow_256 (m:Nat):(2:Int)^(8*m)=256^m:=by rw [Int.pow_mul];rfl
theorem xL {n:Nat} (h:n<18446744073709551616):IntKind.u64.wrap (n:Int)=n:=by
 simp only [IntKind.wrap,IntKind.bits,IntKind.signed];simp;omega
theorem kLY {n:Nat} (h:n<18446744073709551616):kM .and .u64 (n:Int) 127=some (.int .u64 ((n%128:Nat):Int)):=by
 simp only [kM]
 congr 2
 have e1:(BitVec.ofInt IntKind.u64.bits (n:Int)&&&BitVec.ofInt IntKind.u64.bits 127).toNat=n%128:=by
  show (BitVec.ofInt 64 (n:Int)&&&BitVec.ofInt 64 127).toNat=n%128
  rw [BitVec.toNat_and]
  have a:(BitVec.ofInt 64 (n:Int)).toNat=n:=by simp [];omega
  have b:(BitVec.ofInt 64 127).toNat=2^7-1:=by decide
  rw [a,b,Nat.and_two_pow_sub_one_eq_mod]
 rw [e1,xL (by omega)]
theorem kPN {x:Nat} (h:x<128):kM .or .u8 (x:Int) 128=some (.int .u8 ((x+128:Nat):Int)):=by
 have e:=kKR (k:=.u8) rfl (x:=x) (y:=128) (by show x<2^8;omega) (by decide)
 have e2:=kKQ 1 x 7 (by omega)
 simp only [Nat.one_mul] at e2
 have e3:x|||128=x+128:=by
  have:(2:Nat)^7=128:=by decide
  rw [this] at e2;omega
 rw [e3] at e
 exact e
theorem shr_u64 (n k:Nat) (hk:k<64):kM .shr .u64 (n:Int) (k:Nat)=some (.int .u64 ((n/2^k:Nat):Int)):=by
 simp only [kM]
 rw [if_neg (by omega)]
 have:min (k:Int).toNat IntKind.u64.bits=k:=by show min (k:Int).toNat 64=k;omega
 rw [this,Int.fdiv_eq_ediv_of_nonneg _ (by exact Int.le_of_lt (Int.pow_pos (by omega)))]
 congr 2
section
variable {P:Program} {F:Nat→Nat}
attribute [local simp] gOk updo upd ev RK.val? kL kM Addr.kK qE Value.cells undef
theorem kIE (hm:P.follows .mixedOrders=true) (h:kH P (F kJK)=some (ir_sNull F)) {ok ok':Nat→Prop} {w:World} {f:FD} {cs:List Value} {t:TR} {ts:List Value} {ver:Int} (hf:RepF ok w f cs) (ht:RepT ok' w t ts) :
  Calls P (F kJK) [.agg cs.toArray,.int .i64 ver,.agg ts.toArray].toArray w fun e w'=>e=.returned (.bool (f.jR ver t))∧Mod [] w w':=by
 cases hf with
 | @mk kind frm to null tag dfl of sub sv css h1 h2 =>
 cases ht with
 | @mk n s tnull l u sv lv uv css uss g1 g2 g3 g4 g5 =>
 unfold ir_sNull at h
 refine kT h hm (by simp) ?_
 clear h
 rw [wpC_seq,kD]
 refine wB rfl fun w1 hb1 hm1=>?_
 refine wB (v:=.agg [.int .i64 n,sv,.bool tnull,lv,uv].toArray) (by simp) fun w2 hb2 hm2=>?_
 have c1:=fun k=>(hb1.mod hm2 (by simp)).cell k
 have c2:=fun k=>hb2.cell k
 refine go1 rfl rfl (kE ?_)
 rw [wpC_seq,kD]
 cases tnull
 ·iterate 14 (first|(apply go1;(· simp);(· simp [c2]<;>rfl))|(apply go0;(· simp)))
  exact kE (ret1 rfl (by simp [FD.jR,TR.null,hm1.trans hm2]))
 ·by_cases e1:null≥0
  ·iterate 14 (first|(apply go1;(· simp []);(· simp [c1,c2,e1]<;>rfl))|(apply go0;(· simp [e1])))
   exact kE (ret1 rfl (by simp [FD.jR,FD.null,TR.null,e1,hm1.trans hm2]<;>rfl))
  ·iterate 14 (first|(apply go1;(· simp []);(· simp [c1,c2,e1]<;>rfl))|(apply go0;(· simp [])))
   exact kE (ret1 rfl (by simp [FD.jR,FD.null,TR.null,e1,hm1.trans hm2]<;>rfl))
theorem kEM (hm:P.follows .mixedOrders=true) (h:kH P (F uQ)=some (ir_sThings F)) {ok:Nat→Prop} {w:World} {v:Value} {l:List TR} {css:List (List Value)} (hv:SlC ok w v l.length css.flatten) (hr:jN ok w l css) :
  Calls P (F uQ) [v].toArray w fun e w'=>w'=w ∧∃v',e=.returned v'∧SlC ok w v' (l.take 32767).length (css.take 32767).flatten∧jN ok w (l.take 32767) (css.take 32767):=by
 unfold ir_sThings at h
 refine kT h hm (by simp) ?_
 clear h
 obtain ⟨b,c,rfl⟩:=hv.shape
 rw [wpC_seq,kD]
 refine go1 rfl rfl (kE ?_)
 rw [wpC_seq,kD]
 refine go1 rfl rfl (go1 rfl rfl ?_)
 refine go1 (v:=.int .i64 l.length) rfl (by simp) ?_
 refine go1 (v:=.int .i64 ((min l.length 32767:Nat):Int)) rfl (by simp [kJX]) ?_
 obtain ⟨v',e1,h1⟩:=slice_head (x:=.tmp 3) (y:=.tmp 6) (sz:=5) (σ:=upd (upd (upd (upd (upd (qE [.slice b l.length c]) 2 (.slice none 0 0)) 3 (.slice b l.length c)) 4 (.slice b l.length c)) 5 (.int .i64 l.length)) 6 (.int .i64 ((min l.length 32767:Nat):Int))) (k:=min l.length 32767) (by simp) (by simp) hv (by omega)
 refine go1 (v:=v') rfl e1 ?_
 refine go1 (v:=v') rfl (by simp) (kE (ret1 (v:=v') (by simp) ⟨rfl,v',rfl,?_,hr.take _⟩))
 rw [kAO _ _ hr.five] at h1
 have e2:(l.take 32767).length=min l.length 32767:=by simp [Nat.min_comm]
 have e3:css.take (min l.length 32767)=css.take 32767:=by
  by_cases hl:l.length≤32767
  ·have:=hr.length
   rw [Nat.min_eq_left hl,List.take_of_length_le (by omega),List.take_of_length_le (by omega)]
  ·rw [Nat.min_eq_right (by omega)]
 rw [e2,←e3];exact h1
theorem kAP (hm:P.follows .mixedOrders=true) (h:kH P (F sAt)=some (ir_sAt F)) {ok:Nat→Prop} {w:World} {t:TR} {ts:List Value} {i:Nat} (ht:RepT ok w t ts) :
  Calls P (F sAt) [.agg ts.toArray,.int .i64 (i:Nat)].toArray w fun e w' =>∃cs,e=.returned (.agg cs.toArray)∧RepT anyB w' (t.at i) cs∧Mod [] w w':=by
 replace ht:=ht.any
 cases ht with
 | @mk n s tnull l u sv lv uv css uss g1 g2 g3 g4 g5 =>
 unfold ir_sAt at h
 refine kT h hm (by simp) ?_
 clear h
 rw [wpC_seq,kD]
 refine wB rfl fun w1 hb1 hm1=>?_
 refine jI fun w2 hb2 hm2=>?_
 have hm12:=hm1.trans hm2
 have c1:=fun k=>(hb1.mod hm2 (by simp)).cell k
 refine kE ?_
 obtain ⟨lb,lc,elv⟩:=g2.shape
 rw [wpC_seq,wpC_seq,kD]
 have key :∀σ:Sl,σ 4=.pointer (some ⟨w1.heap.size,0,none⟩)→l[i]?=none→wpC P (.seq (.blk [⟨(some (15)),.build [.int .i64 0,.slice none 0 0,.bool false,.slice none 0 0,.slice none 0 0] [],none⟩,
   ⟨none,.st (.tmp 4) 5 (.tmp 15),none⟩]) .ret) (postC [.cells 4 5] fun e w' =>∃cs,e=.returned (.agg cs.toArray)∧RepT anyB w' ((TR.mk n s tnull l u).at i) cs∧Mod [] w w') σ w2:=by
  intro σ h4 hn
  rw [wpC_seq,kD]
  refine go1 (v:=.agg tzero.toArray) rfl rfl ?_
  refine goSt (b:=w1.heap.size) (v:=.agg tzero.toArray) (by simp [h4]) (by simp) hb2 rfl rfl (by simp [tzero,Value.oneCell']) fun w3 hb3 hm3=>?_
  refine kE (retN (by simpa using h4) hb3 rfl ⟨_,rfl,?_,?_⟩)
  ·have:(TR.mk n s tnull l u).at i=TR.zero:=by simp [TR.at,TR.l,hn]
   rw [this];exact RepT.zero
  ·exact Mod.drop (b:=w1.heap.size) (S:=[]) (hm12.nil.trans hm3) hm1.size
 iterate 4 (apply go1 rfl;(· simp [c1,elv]<;>rfl))
 refine go1 (v:=.bool (decide ((i:Int)<l.length))) rfl (by simp) ?_
 refine kE ?_
 by_cases hi:i<l.length
 ·rw [kI (by simp [hi]),wpC_seq,kD]
  obtain ⟨t',ht'⟩ :∃t',l[i]?=some t':=⟨l[i],by simp [hi]⟩
  obtain ⟨cs,hcs,hrep⟩:=g3.nth ht'
  obtain ⟨a,c,ea,hj,hcell⟩:=g2.flat (g3.length) (g3.five) hcs
  have hcell2:kV w2 (a.add (i*5)) 0 5=some cs:=qA hm12.below _ _ _ hcell
  rw [elv] at ea
  simp only [Value.slice.injEq,true_and] at ea
  obtain ⟨ea,ec⟩:=ea
  subst ea
  iterate 3 (apply go1 rfl;(· simp [c1,elv]<;>rfl))
  refine go1 (v:=.pointer (some (a.add (i*5)))) rfl (by simp [hi]) ?_
  refine go1 (v:=.agg cs.toArray) rfl (by simp [hcell2]) ?_
  refine goSt (b:=w1.heap.size) (v:=.agg cs.toArray) (by simp) (by simp) hb2 (by simp [hrep.five]) rfl (by simpa using hrep.oneCell) fun w3 hb3 hm3=>?_
  have hm123:Mod [] w w3:=Mod.drop (b:=w1.heap.size) (S:=[]) (hm12.nil.trans hm3) hm1.size
  refine kE (zP (retN (cs:=cs) (b:=w1.heap.size) (by simp) (by simpa using hb3) hrep.five ⟨cs,rfl,?_,hm123⟩))
  have:(TR.mk n s tnull l u).at i=t':=by simp [TR.at,TR.l,ht']
  rw [this]
  exact hrep.keep hm123
 ·rw [kG (by simp;omega),wpC_skip]
  exact key _ (by simp) (by simp;omega)
end
def u32v (k:Nat):Value:=.int .u32 k
theorem putObj_size (w:World) (r:Nat) (o:Obj):(putObj w r o).heap.size=w.heap.size:=by simp [putObj]
theorem kIF {w:World} {r k:Nat} {o:Obj} (h:k≠r):(putObj w r o).heap[k]?=w.heap[k]?:=by
 simp only [putObj];exact Array.getElem?_setIfInBounds_ne (fun e=>h e.symm)
theorem kAQ {α β:Type} {f:α→β} {l:List α} (h:(l.map f).Nodup):l.Nodup :=
 List.Pairwise.of_map f (fun _ _ hab e=>hab (congrArg f e)) h
structure kIG (es:Array MapEntry) (seen:Array Nat) (E:List MapEntry):Prop where
 sub :∀e∈E,e∈es.toList
 nd:(E.map (·.born)).Nodup
 all:seen.toList=E.map (·.born)
theorem kIG.push {es:Array MapEntry} {seen:Array Nat} {E:List MapEntry} {e:MapEntry} (h:kIG es seen E) (he:e∈(leftOf es seen).toList):kIG es (seen.push e.born) (E++[e]):=by
 obtain ⟨h1,h2⟩:=mem_left he
 refine ⟨fun x hx=>?_,?_,by simp [h.all]⟩
 ·rcases List.mem_append.1 hx with hx|hx
  ·exact h.sub x hx
  ·simp only [List.mem_singleton] at hx;subst hx;exact h1
 ·rw [List.map_append,List.nodup_append]
  refine ⟨h.nd,by simp,fun a ha b hb=>?_⟩
  simp only [List.map_cons,List.map_nil,List.mem_singleton] at hb
  subst hb
  intro e'
  subst e'
  rw [←h.all] at ha
  have:seen.contains e.born=true:=by simpa using ha
  rw [this] at h2;simp at h2
theorem kIG.perm {es:Array MapEntry} {seen:Array Nat} {E:List MapEntry} (h:kIG es seen E) (hb:(es.toList.map (·.born)).Nodup) (h0:(leftOf es seen).size=0):E.Perm es.toList:=by
 have hE:E.Nodup:=kAQ h.nd
 have hes:es.toList.Nodup:=kAQ hb
 refine (List.perm_ext_iff_of_nodup hE hes).2 fun x=>⟨fun hx=>h.sub x hx,fun hx=>?_⟩
 have hc:=all_seen es seen h0 x hx
 have:x.born∈seen.toList:=by simpa using hc
 rw [h.all] at this
 obtain ⟨y,hy,hyx⟩:=List.mem_map.1 this
 have:=born_inj hb (h.sub y hy) hx hyx
 exact this▸hy
theorem kIG.lt {es:Array MapEntry} {seen:Array Nat} {E:List MapEntry} {e:MapEntry} (h:kIG es seen E) (_hb:(es.toList.map (·.born)).Nodup) (he:e∈(leftOf es seen).toList):E.length<es.size:=by
 have h2:=h.push he
 have hE:(E++[e]).Nodup:=kAQ h2.nd
 have:=hE.length_le_of_subset (l₂:=es.toList) h2.sub
 simp only [List.length_append,List.length_cons,List.length_nil,Array.length_toList] at this
 omega
section
variable {P:Program} {F:Nat→Nat}
structure KeyS (w0:World) (w:World) (σ:Sl) (it Bs B r n:Nat) (es:Array MapEntry) (clock:Nat) (E:List MapEntry):Prop where
 s24:σ 24=.pointer (some ⟨it,0,none⟩)
 s4:σ 4=.pointer (some ⟨Bs,0,none⟩)
 map:w.heap[r]?=some (.map es clock)
 iter :∃seen,w.heap[it]?=some (.mapIter (some r) clock seen clock)∧kIG es seen E
 cell:Blk w Bs [.slice (some ⟨B,0,none⟩) E.length n]
 row :∃rest,Blk w B (E.map (·.key)++rest)∧E.length+rest.length=n
 fr:Mod [] w0 w
 ne1:it≠Bs
 ne2:it≠B
 ne3:Bs≠B
 nr:r≠it∧r≠Bs∧r≠B
 hn:n=es.size
 old1:w0.heap.size≤it
 old2:w0.heap.size≤Bs
 old3:w0.heap.size≤B
theorem kLZ {w0 w:World} {σ:Sl} {it Bs B r n:Nat} {es:Array MapEntry} {clock:Nat} {Q:Exit→Sl→World→Prop} (h:KeyS w0 w σ it Bs B r n es clock []) (hk:kCQ .u32 es) (hb:(es.toList.map (·.born)).Nodup) (hold :∀e∈es.toList,e.born<clock)
  (hQ :∀σ' w' E,(∀j,j<25→j≠5→σ' j=σ j)→KeyS w0 w' σ' it Bs B r n es clock E→E.Perm es.toList→Q .normal σ' w') :
  wpC P (.block 0 (.loop (.seq (.blk [⟨some 25,.mnext (.tmp 24),none⟩,⟨some 26,.ext (.tmp 25) 0,none⟩])
      (.seq (.cond (.tmp 26) .skip (.exit 0))
      (.block 1 (.seq (.blk [⟨some 27,.mentry (.tmp 24),none⟩,⟨some 28,.ext (.tmp 27) 0,none⟩,⟨some 5,.mv (.tmp 28),none⟩])
       (.blk [⟨some 29,.ld (.tmp 4),none⟩,⟨some 30,.mv (.tmp 5),none⟩,⟨some 31,.bslice 1 [.int .u32 0] [(0,1,.tmp 30)],none⟩,⟨some 32,.append (.tmp 29) (.tmp 31) 1 4,none⟩,⟨none,.st (.tmp 4) 1 (.tmp 32),none⟩]))))))) Q σ w:=by
 rw [wpC_block,wpC_loop]
 refine ⟨fun σ' w' =>∃E,(∀j,j<25→j≠5→σ' j=σ j)∧KeyS w0 w' σ' it Bs B r n es clock E,fun _ w'=>(leftOf es (w'.iterSeen it)).size,⟨[],fun _ _ _=>rfl,h⟩,?_⟩
 rintro σ1 w1 ⟨E,ag,hS⟩
 obtain ⟨seen,hit,hE⟩:=hS.iter
 have hseen:w1.iterSeen it=seen:=by unfold World.iterSeen;rw [hit]
 rw [wpC_seq,kD]
 refine kX ?_
 simp only [RK.run,ev,hS.s24,hit,hS.map]
 refine ⟨hold,Nat.le_refl _,fun h0=>?_,fun e he w2 hw2=>?_⟩
 · -- no entry is left
  refine kC (v:=.bool false) (by simp only [RK.val?,ev,updo,upd,if_true];rfl) ?_
  refine kE ?_
  rw [wpC_seq,kG rfl]
  refine wE ?_
  refine hQ _ w1 E (fun j hj h5=>?_) ?_ (hE.perm hb h0)
  ·simp only [updo,upd,show j≠26 by omega,show j≠25 by omega,if_false];exact ag j hj h5
  ·exact {hS with s24:=by simp [updo,upd,hS.s24],s4:=by simp [updo,upd,hS.s4]}
 · -- an entry
  have hsz2:w2.heap=w1.heap:=by rcases hw2 with rfl|rfl<;>rfl
  have hm2:Mod [] w1 w2:=by
   rcases hw2 with rfl|rfl
   ·exact Mod.refl _ _
   ·exact Mod.drew _ _
  have hitl:it<w2.heap.size:=by rw [hsz2];exact (Array.getElem?_eq_some_iff.1 hit).1
  refine kC (v:=.bool true) (by simp only [RK.val?,ev,updo,upd,if_true];rfl) ?_
  refine kE ?_
  rw [wpC_seq,kI rfl,wpC_skip]
  simp only [kF]
  rw [wpC_block,wpC_seq,kD]
  have hpm:Mod [it] w2 (putObj w2 it (.mapIter (some r) clock (seen.push e.born) clock)):=Mod.putObj (by simp)
  have hget:(putObj w2 it (.mapIter (some r) clock (seen.push e.born) clock)).heap[it]?=some (.mapIter (some r) clock (seen.push e.born) clock):=kCU hitl
  have hmp:(putObj w2 it (.mapIter (some r) clock (seen.push e.born) clock)).heap[r]?=some (.map es clock):=by
   rw [kIF hS.nr.1,hsz2];exact hS.map
  obtain ⟨rest,hrow,hlen⟩:=hS.row
  have hcell:=(hS.cell.mod hm2 (by simp)).mod hpm (by simpa using hS.ne1.symm)
  have hrow:=(hrow.mod hm2 (by simp)).mod hpm (by simpa using hS.ne2.symm)
  have hpsz:(putObj w2 it (.mapIter (some r) clock (seen.push e.born) clock)).heap.size=w2.heap.size:=putObj_size _ _ _
  have hm3:Mod [it] w1 (putObj w2 it (.mapIter (some r) clock (seen.push e.born) clock)):=hm2.nil.trans hpm
  generalize hw3:putObj w2 it (.mapIter (some r) clock (seen.push e.born) clock)=w3 at hpm hget hmp hcell hrow hpsz hm3 ⊢
  obtain ⟨k,hkk⟩:=hk e (mem_left he).1
  have hlt:=hE.lt hb he
  have hnn:=hS.hn
  refine kX ?_
  simp only [RK.run,ev,updo,upd,show (24:Nat)≠26 by decide,show (24:Nat)≠25 by decide,if_false,hS.s24,hget,hmp]
  refine ⟨trivial,e,(mem_left he).1,hb,by simp,?_⟩
  refine kC (v:=e.key) (by simp only [RK.val?,ev,upd,if_true];rfl) ?_
  refine kC (v:=e.key) (by simp only [RK.val?,ev,updo,upd,if_true]) ?_
  refine kE ?_
  rw [kD]
  refine kC (v:=.slice (some ⟨B,0,none⟩) E.length n) (by simp only [RK.val?,ev,updo,upd];simp [hS.s4,hcell.cell]) ?_
  refine kC (v:=e.key) (by simp only [RK.val?,ev,updo,upd];simp) ?_
  refine kX ?_
  have hkc:e.key.cells=#[e.key]:=by rw [hkk];rfl
  have hko:e.key.oneCell'=true:=by rw [hkk];rfl
  simp only [RK.run,List.map_cons,List.map_nil,ev,updo,upd,if_true,zrep,List.replicate_succ,List.replicate_zero,List.flatten_cons,List.flatten_nil,List.append_nil,zW,hkc]
  have hspl:splice [Value.int .u32 0] 0 [e.key]=[e.key]:=jW rfl
  simp only [List.size_toArray,List.length_cons,List.length_nil,Nat.zero_add,Nat.le_refl,and_self,if_true,hspl]
  intro Tn
  have bA:=Blk.new w3 [e.key] Tn
  have mA:Mod [] w3 (w3.alloc (.cells [e.key].toArray Tn)):=Mod.alloc _ _ _
  have zA:(w3.alloc (.cells [e.key].toArray Tn)).heap.size=w3.heap.size+1:=by simp
  have hcell4:=hcell.mod mA (by simp)
  have hrow4:=hrow.mod mA (by simp)
  have hget4:(w3.alloc (.cells [e.key].toArray Tn)).heap[it]?=some (.mapIter (some r) clock (seen.push e.born) clock):=by rw [mA.block it (by omega) (by simp)];exact hget
  have hrl:r<w3.heap.size:=(Array.getElem?_eq_some_iff.1 hmp).1
  have hmp4:(w3.alloc (.cells [e.key].toArray Tn)).heap[r]?=some (.map es clock):=by rw [mA.block r hrl (by simp)];exact hmp
  generalize w3.alloc (.cells [e.key].toArray Tn)=w4 at bA mA zA hcell4 hrow4 hget4 hmp4 ⊢
  refine kX ?_
  have hsrc:qI w4 1 (.slice (some ⟨w3.heap.size,0,none⟩) 1 1)=some (1,[e.key]):=by
   simp only [qI,Nat.mul_one]
   rw [kJ bA.cells (n:=1) rfl];rfl
  simp only [RK.run,ev,updo,upd,show (29:Nat)≠31 by decide,show (29:Nat)≠30 by decide,if_false,if_true,hsrc,qV]
  rw [if_pos (by omega)]
  simp only [Addr.kK,Nat.zero_add,Nat.mul_one]
  obtain ⟨x,rest',rfl⟩ :∃x r',rest=x::r':=by cases rest with|nil=>simp at hlen;omega|cons x r'=>exact ⟨x,r',rfl⟩
  simp only [List.length_cons] at hlen
  refine ⟨yN hrow4 (by simp) hko,?_⟩
  have hput:Mod [B] w4 (putCells w4 ⟨B,E.length,none⟩ 0 [e.key]):=Mod.put (by simp)
  have hp:=hrow4.put (o:=E.length) (vs:=[e.key]) (by simp)
  have hsp2:splice (E.map (·.key)++x::rest') E.length [e.key]=(E++[e]).map (·.key)++rest':=by
   have h1:(E.map (·.key)++x::rest').take E.length=E.map (·.key):=List.take_left' (by simp)
   have h2:(E.map (·.key)++x::rest').drop (E.length+[e.key].length)=rest':=by
    rw [show E.map (·.key)++x::rest'=(E.map (·.key)++[x])++rest' by simp]
    exact List.drop_left' (by simp)
   unfold splice
   rw [h1,h2];simp
  rw [hsp2] at hp
  have hcell5:=hcell4.mod hput (by simpa using hS.ne3)
  have hget5:(putCells w4 ⟨B,E.length,none⟩ 0 [e.key]).heap[it]?=some (.mapIter (some r) clock (seen.push e.born) clock):=by
   rw [hput.block it (by omega) (by simpa using hS.ne2)];exact hget4
  have hmp5:(putCells w4 ⟨B,E.length,none⟩ 0 [e.key]).heap[r]?=some (.map es clock):=by
   rw [hput.block r (by omega) (by simpa using hS.nr.2.2)];exact hmp4
  have zB:(putCells w4 ⟨B,E.length,none⟩ 0 [e.key]).heap.size=w4.heap.size:=zX ..
  generalize putCells w4 ⟨B,E.length,none⟩ 0 [e.key]=w5 at hput hp hcell5 hget5 hmp5 zB ⊢
  refine kX ?_
  have ec:(Value.slice (some ⟨B,0,none⟩) (E.length+1) n).cells=#[.slice (some ⟨B,0,none⟩) (E.length+1) n]:=rfl
  have hput6:Mod [Bs] w5 (putCells w5 ⟨Bs,0,none⟩ 0 [.slice (some ⟨B,0,none⟩) (E.length+1) n]):=Mod.put (by simp)
  have hp6:=hcell5.put (o:=0) (vs:=[.slice (some ⟨B,0,none⟩) (E.length+1) n]) (by simp)
  rw [jW (by rfl)] at hp6
  simp only [RK.run,ev,updo,upd,if_true,show (4:Nat)≠32 by decide,show (4:Nat)≠31 by decide,show (4:Nat)≠30 by decide,show (4:Nat)≠29 by decide,show (4:Nat)≠5 by decide,show (4:Nat)≠28 by decide,show (4:Nat)≠27 by decide,show (4:Nat)≠26 by decide,show (4:Nat)≠25 by decide,if_false,hS.s4,ec]
  refine ⟨rfl,yN hcell5 (by simp) rfl,?_⟩
  have hget6:(putCells w5 ⟨Bs,0,none⟩ 0 [.slice (some ⟨B,0,none⟩) (E.length+1) n]).heap[it]?=some (.mapIter (some r) clock (seen.push e.born) clock):=by
   rw [hput6.block it (by omega) (by simpa using hS.ne1)];exact hget5
  have hmp6:(putCells w5 ⟨Bs,0,none⟩ 0 [.slice (some ⟨B,0,none⟩) (E.length+1) n]).heap[r]?=some (.map es clock):=by
   rw [hput6.block r (by omega) (by simpa using hS.nr.2.1)];exact hmp5
  simp only [wpR,kR,kF]
  refine ⟨⟨E++[e],fun j hj h5=>?_,?_⟩,?_⟩
  ·simp only [upd,show j≠32 by omega,show j≠31 by omega,show j≠30 by omega,show j≠29 by omega,h5,show j≠28 by omega,show j≠27 by omega,show j≠26 by omega,show j≠25 by omega,if_false];exact ag j hj h5
  ·refine {hS with s24:=by simp [upd,hS.s24],s4:=by simp [upd,hS.s4],map:=hmp6,iter:=⟨_,hget6,hE.push he⟩,cell:=by simpa using hp6,row:=⟨rest',hp.mod hput6 (by simpa using hS.ne3.symm),by simp;omega⟩,fr:=?_}
   have o1:=hS.old1;have o2:=hS.old2;have o3:=hS.old3
   refine Mod.drop (b:=it) (S:=[]) ?_ o1
   refine Mod.drop (b:=Bs) (S:=[it]) ?_ o2
   refine Mod.drop (b:=B) (S:=[Bs,it]) ?_ o3
   exact (((hS.fr.mono (by simp)).trans (hm3.mono (by simp))).trans (mA.mono (by simp))).trans ((hput.mono (by simp)).trans (hput6.mono (by simp)))
  ·have h6:(putCells w5 ⟨Bs,0,none⟩ 0 [.slice (some ⟨B,0,none⟩) (E.length+1) n]).iterSeen it=seen.push e.born:=by unfold World.iterSeen;rw [hget6]
   rw [hseen,h6]
   exact left_shrinks es seen e he
end
def getT (m:List (Nat×List UInt8)) (k:Nat):List UInt8:=match m.find? (fun p=>k==p.1) with|some p=>p.2|none=>[]
theorem kEN (k:Nat) (l:List UInt8) :∀m:List (Nat×List UInt8),(insT k l m).Perm ((k,l)::m)
 | []=>.refl _
 | (k',l')::m=>by
   simp only [insT]
   split
   ·exact .refl _
   ·exact ((kEN k l m).cons _).trans (.swap _ _ _)
theorem uI :∀m:List (Nat×List UInt8),(uF m).Perm m
 | []=>.refl _
 | (k,l)::m=>(kEN k l (uF m)).trans ((uI m).cons _)
theorem kEO (k:Nat) (l:List UInt8) :∀m:List (Nat×List UInt8),m.Pairwise (fun a b=>a.1≤b.1)→(insT k l m).Pairwise (fun a b=>a.1≤b.1)
 | [],_=>by simp [insT]
 | (k',l')::m,h=>by
   simp only [insT]
   rw [List.pairwise_cons] at h
   split
   ·rename_i hk
    refine List.pairwise_cons.2 ⟨fun b hb=>?_,List.pairwise_cons.2 h⟩
    rcases List.mem_cons.1 hb with rfl|hb
    ·exact Nat.le_of_lt hk
    ·have:=h.1 b hb;simp only at this ⊢;omega
   ·rename_i hk
    refine List.pairwise_cons.2 ⟨fun b hb=>?_,kEO k l m h.2⟩
    have:=(kEN k l m).mem_iff.1 hb
    rcases List.mem_cons.1 this with rfl|hb
    ·simp only;omega
    ·exact h.1 b hb
theorem kAR :∀m:List (Nat×List UInt8),(uF m).Pairwise (fun a b=>a.1≤b.1)
 | []=>.nil
 | (k,l)::m=>kEO k l _ (kAR m)
theorem kDR :∀{m:List (Nat×List UInt8)} (p:Nat×List UInt8),(m.map (·.1)).Nodup→p∈m→getT m p.1=p.2
 | [],p,_,h=>by simp at h
 | q::m,p,hn,h=>by
   unfold getT
   rw [List.find?_cons]
   rw [List.map_cons,List.nodup_cons] at hn
   rcases List.mem_cons.1 h with rfl|h
   ·simp
   ·have hne :¬p.1=q.1:=fun e=>hn.1 (by rw [←e];exact List.mem_map.2 ⟨p,h,rfl⟩)
    have:(p.1==q.1)=false:=by simpa using hne
    rw [this]
    exact kDR p hn.2 h
theorem kKW {m:List (Nat×List UInt8)} {ks:List Nat} (hn:(m.map (·.1)).Nodup) (hp:ks.Perm (m.map (·.1))) (hs:ks.Pairwise (·≤·)):ks.map (fun k=>(k,getT m k))=uF m:=by
 have h1:(m.map (·.1)).map (fun k=>(k,getT m k))=m:=by
  rw [List.map_map]
  conv=>rhs;rw [←List.map_id m]
  apply List.map_congr_left
  intro p hp
  simp only [Function.comp,id,kDR p hn hp]
 have h2:(ks.map (fun k=>(k,getT m k))).Perm m:=by
  have:=hp.map (fun k=>(k,getT m k))
  rwa [h1] at this
 refine List.Perm.eq_of_pairwise (le:=fun a b=>a.1≤b.1) (fun a b ha hb hab hba=>?_) ?_ (kAR m) (h2.trans (uI m).symm)
 ·have ha':=h2.mem_iff.1 ha
  have hb':=(uI m).mem_iff.1 hb
  have e:a.1=b.1:=Nat.le_antisymm hab hba
  have x1:=kDR a hn ha'
  have x2:=kDR b hn hb'
  rw [e] at x1
  exact Prod.ext e (x1.symm.trans x2)
 ·exact List.Pairwise.map _ (fun a b h=>h) hs
theorem EntL.get {ok:Nat→Prop} {w:World} {es:List MapEntry} {m:List (Nat×List UInt8)} (h:EntL ok w es m) {k:Nat} (hk:k∈m.map (·.1)) :∃e,es.find? (vY k)=some e∧SlC ok w e.val (getT m k).length (u8s (getT m k)):=by
 induction h with
 | nil=>simp at hk
 | @cons e k' l es m h1 h2 h3 h4 ih =>
   have hki:vY k e=decide (k=k'):=by
    unfold vY;rw [h1]
    by_cases hkk:k=k'
    ·simp [hkk]
    ·have :¬(k:Int)=k':=by omega
     simp [hkk,this]
   rw [List.find?_cons,hki]
   by_cases hkk:k=k'
   ·refine ⟨e,by simp [hkk],?_⟩
    have:getT ((k',l)::m) k=l:=by unfold getT;simp [hkk]
    rw [this];exact h3
   ·simp only [List.map_cons,List.mem_cons,hkk,false_or] at hk
    obtain ⟨x,hx1,hx2⟩:=ih hk
    refine ⟨x,by simp [hkk,hx1],?_⟩
    have:getT ((k',l)::m) k=getT m k:=by unfold getT;rw [List.find?_cons,show (k==k')=false by simpa using hkk]
    rw [this];exact hx2
theorem EntL.len {ok:Nat→Prop} {w:World} {es:List MapEntry} {m:List (Nat×List UInt8)} (h:EntL ok w es m):es.length=m.length:=by
 induction h with
 | nil=>rfl
 | cons _ _ _ _ ih=>simp [ih]
theorem EntL.klist {ok:Nat→Prop} {w:World} {es:List MapEntry} {m:List (Nat×List UInt8)} (h:EntL ok w es m):es.map (·.key)=(m.map (·.1)).map u32v:=by
 induction h with
 | nil=>rfl
 | cons h1 _ _ _ ih=>simp [ih,h1,u32v]
theorem EntL.lt32 {ok:Nat→Prop} {w:World} {es:List MapEntry} {m:List (Nat×List UInt8)} (h:EntL ok w es m) :∀k∈m.map (·.1),k<4294967296:=by
 induction h with
 | nil=>simp
 | cons _ h2 _ _ ih =>
   intro k hk
   rw [List.map_cons] at hk
   rcases List.mem_cons.1 hk with rfl|hk
   ·exact h2
   ·exact ih k hk
theorem kIH :∀{a b:List Nat},(a.map u32v).Perm (b.map u32v)→a.Perm b:=by
 intro a b h
 have hd :∀l:List Nat,(l.map u32v).map (fun v=>match v with|.int _ n=>n.toNat|_=>0)=l:=by
  intro l
  rw [List.map_map]
  conv=>rhs;rw [←List.map_id l]
  apply List.map_congr_left
  intro k _;simp [u32v]
 have:=h.map (fun v=>match v with|.int _ n=>n.toNat|_=>0)
 rwa [hd,hd] at this
def kPO (P:Program) (f g:FuncId) (T:TypeId):Prop :=
 ∀(w:World) (B Bs:Nat) (ks:List Nat),Blk w B (ks.map u32v)→Blk w Bs [.slice (some ⟨B,0,none⟩) ks.length ks.length]→Bs≠B→ks.length≤2147483647→(∀k∈ks,k<4294967296) →
   Calls P f #[.iface T (.slice (some ⟨B,0,none⟩) ks.length ks.length),.func (.func g) #[] #[.pointer (some ⟨Bs,0,none⟩)]] w fun e w' =>
    e=.returned (.tuple #[]) ∧∃ks':List Nat,ks'.Perm ks∧ks'.Pairwise (·≤·)∧Blk w' B (ks'.map u32v)∧Mod [B] w w'
section
variable {P:Program} {F:Nat→Nat}
def kKX (P:Program) (w0:World) (S:List Nat) (okv:Nat→Prop) (g:FuncId) (captured:List Value) (I:World→List (Nat×List UInt8)→World→Prop) (all:List (Nat×List UInt8)):Prop :=
 ∀(wN:World) (done:List (Nat×List UInt8)) (k:Nat) (l:List UInt8) (w1:World) (v:Value),(∃r,all=done++(k,l)::r)→Mod [] w0 wN→I wN done w1→done.length<2147483647→Mod S wN w1→k<4294967296→l.length≤2147483647→SlC okv w1 v l.length (u8s l) →
   Calls P g ([u32v k,v]++captured).toArray w1 fun e w2=>e=.returned (.tuple #[])∧I wN (done++[(k,l)]) w2∧Mod S wN w2
theorem kPP {m:List (Nat×List UInt8)} (h :∀p∈m,p.2.length≤2147483647) (k:Nat):(getT m k).length≤2147483647:=by
 unfold getT
 cases hf:m.find? (fun p=>k==p.1) with
 | none=>simp
 | some p=>exact h p (List.mem_of_find?_eq_some hf)
theorem kL0 {w0 wN w:World} {S:List Nat} {okv:Nat→Prop} {g:FuncId} {captured:List Value} {I:World→List (Nat×List UInt8)→World→Prop} {m:List (Nat×List UInt8)} {ks:List Nat} (hcb:kKX P w0 S okv g captured I (ks.map fun k=>(k,getT m k))) (hbody:wS P g=true)
  {σ:Sl} {B o R r:Nat} {Q:Exit→Sl→World→Prop} (h0:σ 0=.pointer (some ⟨B,o,none⟩)) (h1:σ 1=.func (.func g) #[] captured.toArray) (h37:σ 37=.slice (some ⟨R,0,none⟩) ks.length ks.length)
  (h38:σ 38=.int .i64 ks.length) (h39:σ 39=.int .i64 0) (hmN:Mod [] w0 wN) (hw:w=wN) (hrow:Blk wN R (ks.map u32v)) (hcell:wN.cell? ⟨B,o,none⟩=some (.map (some r))) (hM:y9 okv wN r m) (hB:B ∉ S) (hr:r ∉ S) (hR:R ∉ S) (hS :∀b∈S,¬okv b)
  (hmv :∀p∈m,p.2.length≤2147483647) (hks :∀k∈ks,k∈m.map (·.1)) (hlen:ks.length≤2147483647) (hI:I wN [] wN)
  (hQ :∀σ' w',I wN (ks.map fun k=>(k,getT m k)) w'→Mod S wN w'→Q .normal σ' w') :
  wpC P (.block 2 (.loop (.seq (.blk [⟨some 40,.bin .lss (.tmp 39) (.tmp 38),none⟩])
      (.seq (.cond (.tmp 40) .skip (.exit 2))
      (.seq (.block 3 (.seq (.blk [⟨some 41,.iad (.tmp 37) (.tmp 39) 1,none⟩,⟨some 42,.ld (.tmp 41),none⟩,⟨some 7,.mv (.tmp 42),none⟩])
       (.blk [⟨some 43,.mv (.tmp 1),none⟩,⟨some 44,.mv (.tmp 7),none⟩,⟨some 45,.mv (.tmp 0),none⟩,⟨some 46,.nilc (.tmp 45),none⟩,⟨some 47,.fad (.tmp 46) 0,none⟩,⟨some 48,.ld (.tmp 47),none⟩,⟨some 49,.mv (.tmp 7),none⟩,
        ⟨some 50,.mlook (.tmp 48) (.tmp 49) (.slice none 0 0),none⟩,⟨some 51,.callv (.tmp 43) [.tmp 44,.tmp 50],none⟩])))
      (.blk [⟨some 52,.bin .add (.tmp 39) (.const (.int .i64 1)),none⟩,⟨some 39,.mv (.tmp 52),none⟩])))))) Q σ w:=by
 subst hw
 rw [wpC_block,wpC_loop]
 refine ⟨fun σ' w' =>∃i,i≤ks.length∧σ' 0=.pointer (some ⟨B,o,none⟩)∧σ' 1=.func (.func g) #[] captured.toArray∧σ' 37=.slice (some ⟨R,0,none⟩) ks.length ks.length∧σ' 38=.int .i64 ks.length∧σ' 39=.int .i64 (i:Nat) ∧
   I w ((ks.take i).map fun k=>(k,getT m k)) w'∧Mod S w w',fun σ' _=>match σ' 39 with|.int _ i=>ks.length-i.toNat|_=>0,⟨0,Nat.zero_le _,h0,h1,h37,h38,h39,by simpa using hI,Mod.refl _ _⟩,?_⟩
 rintro σ1 w1 ⟨i,hi,s0,s1,s37,s38,s39,hI1,hm1⟩
 rw [wpC_seq,kD]
 refine kC (v:=.bool (decide (i<ks.length))) (by
  simp only [RK.val?,ev,s39,s38,kL,decide_true,Bool.or_true,if_true,kM]
  congr 2;exact decide_eq_decide.2 (by omega)) ?_
 refine kE ?_
 by_cases hlt:i<ks.length
 ·rw [wpC_seq,kI (by simp only [ev,updo,upd,if_true,hlt,decide_true]),wpC_skip]
  simp only [kF]
  rw [wpC_seq,wpC_block,wpC_seq,kD]
  have hki:ks[i]?=some ks[i]:=List.getElem?_eq_getElem hlt
  have hkm:=hks ks[i] (List.getElem_mem hlt)
  have htk:ks.take (i+1)=ks.take i++[ks[i]]:=(List.take_append_getElem hlt).symm
  generalize ks[i]=k at hki hkm htk
  have c41:w1.cell? ⟨R,i,none⟩=some (u32v k):=by
   have:=(hrow.mod hm1 hR).cell i
   rw [this,List.getElem?_map,hki];rfl
  refine kC (v:=.pointer (some ⟨R,i,none⟩)) (by
   simp only [RK.val?,ev,updo,upd,show (37:Nat)≠40 by decide,show (39:Nat)≠40 by decide,if_false,s37,s39]
   rw [if_pos (by omega)]
   simp [Addr.kK]) ?_
  refine kC (v:=u32v k) (by simp only [RK.val?,ev,updo,upd,if_true,c41]) ?_
  refine kC (v:=u32v k) (by simp only [RK.val?,ev,updo,upd,if_true]) ?_
  refine kE ?_
  rw [kD]
  have hcell1:w1.cell? ⟨B,o,none⟩=some (.map (some r)):=zH hcell hm1 hB
  have hM1:=hM.mod (ok':=okv) hm1 hr hS fun _ _ h=>h
  obtain ⟨es,clock,he1,he2,he3,he4⟩:=hM1.ex
  obtain ⟨e,hf,hv⟩:=he2.get hkm
  have hk32:=he2.lt32 k hkm
  have hmg:kHE es k (.slice none 0 0)=e.val:=by unfold kHE;rw [hf]
  refine kC (v:=.func (.func g) #[] captured.toArray) (by simp only [RK.val?,ev,updo,upd];simp [s1]) ?_
  refine kC (v:=u32v k) (by simp only [RK.val?,ev,updo,upd];simp) ?_
  refine kC (v:=.pointer (some ⟨B,o,none⟩)) (by simp only [RK.val?,ev,updo,upd];simp [s0]) ?_
  refine kC (v:=.pointer (some ⟨B,o,none⟩)) (by simp only [RK.val?,ev,updo,upd,if_true]) ?_
  refine kC (v:=.pointer (some ⟨B,o,none⟩)) (by simp only [RK.val?,ev,updo,upd,if_true,Addr.kK,Nat.add_zero]) ?_
  refine kC (v:=.map (some r)) (by simp only [RK.val?,ev,updo,upd,if_true,hcell1]) ?_
  refine kC (v:=u32v k) (by simp only [RK.val?,ev,updo,upd];simp) ?_
  refine kX ?_
  simp only [RK.run,ev,updo,upd,show (48:Nat)≠49 by decide,if_false,if_true,u32v,he1]
  refine ⟨he2.keys,?_⟩
  rw [hmg]
  refine kX ?_
  have hc:=hcb w ((ks.take i).map fun k=>(k,getT m k)) k (getT m k) w1 e.val ⟨(ks.drop (i+1)).map fun k=>(k,getT m k),by
   have:ks=ks.take i++k::ks.drop (i+1):=by
    have h1:=(List.take_append_drop (i+1) ks).symm
    rw [htk,List.append_assoc] at h1
    exact h1
   conv=>lhs;rw [this]
   simp⟩ hmN hI1 (by simp only [List.length_map,List.length_take];omega) hm1 hk32 (kPP hmv k) hv
  simp only [RK.run,ev,updo,upd,show (43:Nat)≠50 by decide,show (43:Nat)≠49 by decide,show (43:Nat)≠48 by decide,show (43:Nat)≠47 by decide,show (43:Nat)≠46 by decide,show (43:Nat)≠45 by decide,show (43:Nat)≠44 by decide,
   show (44:Nat)≠50 by decide,show (44:Nat)≠49 by decide,show (44:Nat)≠48 by decide,show (44:Nat)≠47 by decide,show (44:Nat)≠46 by decide,show (44:Nat)≠45 by decide,if_false,if_true,List.map_cons,List.map_nil,List.nil_append]
  refine ⟨hbody,hc.mono ?_⟩
  rintro en w2 ⟨rfl,hI2,hm2⟩
  refine ⟨_,rfl,?_⟩
  simp only [wpR,kR,kF]
  rw [kD]
  refine kC (v:=.int .i64 ((i+1:Nat):Int)) (by
   simp only [RK.val?,ev,upd,show (39:Nat)≠51 by decide,show (39:Nat)≠50 by decide,show (39:Nat)≠49 by decide,show (39:Nat)≠48 by decide,show (39:Nat)≠47 by decide,show (39:Nat)≠46 by decide,show (39:Nat)≠45 by decide,show (39:Nat)≠44 by decide,show (39:Nat)≠43 by decide,show (39:Nat)≠7 by decide,show (39:Nat)≠42 by decide,show (39:Nat)≠41 by decide,show (39:Nat)≠40 by decide,if_false,s39,kL,decide_true,Bool.or_true,if_true,kM]
   have e1:(i:Int)+1=((i+1:Nat):Int):=by omega
   rw [e1,qX (by omega) (by omega)]) ?_
  refine kC (v:=.int .i64 ((i+1:Nat):Int)) (by simp only [RK.val?,ev,updo,upd,if_true]) ?_
  simp only [wpR]
  refine ⟨⟨i+1,by omega,by simp [updo,upd,s0],by simp [updo,upd,s1],by simp [updo,upd,s37],by simp [updo,upd,s38],by simp only [updo,upd,if_true],?_,hm2⟩,?_⟩
  ·rw [htk,List.map_append];exact hI2
  ·simp only [updo,upd,if_true,s39];omega
 ·rw [wpC_seq,kG (by simp only [ev,updo,upd,if_true,hlt,decide_false])]
  refine vP ?_
  refine hQ _ w1 ?_ hm1
  have:i=ks.length:=by omega
  subst this
  simpa using hI1
theorem kL1 {w:World} (hm:P.follows .mixedOrders=true) (h:kH P (F kEC)=some (ir_tEach F)) (hsort:kPO P (F uC) (F wW) (F kAH))
  {S:List Nat} {okv:Nat→Prop} {g:FuncId} {captured:List Value} {I:World→List (Nat×List UInt8)→World→Prop} {m:List (Nat×List UInt8)} (hcb:kKX P w S okv g captured I (uF m)) (hbody:wS P g=true)
  {B o:Nat} {v:Value} (hc:w.cell? ⟨B,o,none⟩=some v) (hM:TagM okv w v m) (hlen:m.length≤2147483647) (hmv :∀p∈m,p.2.length≤2147483647) (hB:B ∉ S) (hr :∀r,v=.map (some r)→r ∉ S) (hSl :∀b∈S,b<w.heap.size) (hS :∀b∈S,¬okv b)
  (hI :∀wN,Mod [] w wN→I wN [] wN) :
  Calls P (F kEC) [.pointer (some ⟨B,o,none⟩),.func (.func g) #[] captured.toArray].toArray w fun e w'=>e=.returned (.tuple #[]) ∧∃wN,Mod [] w wN∧I wN (uF m) w'∧Mod S wN w':=by
 unfold ir_tEach at h
 refine kT h hm (by simp) ?_
 have a0:qE [.pointer (some ⟨B,o,none⟩),.func (.func g) #[] captured.toArray] 0=.pointer (some ⟨B,o,none⟩):=rfl
 have a1:qE [.pointer (some ⟨B,o,none⟩),.func (.func g) #[] captured.toArray] 1=.func (.func g) #[] captured.toArray:=rfl
 generalize qE [.pointer (some ⟨B,o,none⟩),.func (.func g) #[] captured.toArray]=σ0 at a0 a1 ⊢
 rw [wpC_seq,wpC_seq,kD]
 refine kC (v:=.pointer (some ⟨B,o,none⟩)) (congrArg some a0) ?_
 refine kC (v:=.pointer (some ⟨B,o,none⟩)) (by simp only [RK.val?,ev,updo,upd,if_true]) ?_
 refine kC (v:=.pointer (some ⟨B,o,none⟩)) (by simp only [RK.val?,ev,updo,upd,if_true,Addr.kK,Nat.add_zero]) ?_
 refine kC (v:=v) (by simp only [RK.val?,ev,updo,upd,if_true,hc]) ?_
 have hml :∀(σ:Sl) (x:Nat) (K:Value→World→Prop),σ x=v→K (.int .i64 m.length) w→(RK.mlen (.tmp x)).run P σ w K:=by
  intro σ x K hx hK
  rcases hM with ⟨rfl,rfl⟩|⟨r,rfl,hM⟩
  ·simp only [RK.run,ev,hx];exact hK
  ·obtain ⟨es,clock,he1,he2,-,-⟩:=hM.ex
   have hl:=he2.len
   simp only [RK.run,ev,hx,he1]
   have:es.size=m.length:=by simpa using hl
   rw [this];exact hK
 refine kX ?_
 refine hml _ 11 _ (by simp only [updo,upd,if_true]) ?_
 refine kC (v:=.bool (decide (m.length=0))) (by
  simp only [RK.val?,ev,updo,upd,if_true,kL,decide_true,Bool.or_true,kM]
  congr 2
  by_cases hz:m.length=0<;>simp [hz]) ?_
 refine kE ?_
 by_cases hz:m.length=0
 ·rw [kI (by simp only [ev,updo,upd,if_true,hz,decide_true])]
  have:m=[]:=List.length_eq_zero_iff.1 hz
  subst this
  simp only [wpC,kF,postC,rvals,List.mapM_nil,Option.pure_def,tup]
  exact ⟨trivial,w,Mod.refl _ _,hI w (Mod.refl _ _),Mod.refl _ _⟩
 rw [kG (by simp only [ev,updo,upd,if_true,hz,decide_false]),wpC_skip]
 simp only [kF]
 obtain ⟨r,rfl,hMr⟩ :∃r,v=.map (some r)∧y9 okv w r m:=by
  rcases hM with ⟨-,rfl⟩|h
  ·simp at hz
  ·exact h
 clear hM
 have hM:=hMr
 clear hMr
 obtain ⟨es,clock,he1,he2,he3,he4⟩:=hM.ex
 have hesl:es.size=m.length:=by have:=he2.len;simpa using this
 have hBl:B<w.heap.size:=World.block_lt_of_cell? w ⟨B,o,none⟩ hc
 have hrl:=hM.lt
 rw [wpC_seq,kD]
 refine kC (v:=.pointer (some ⟨B,o,none⟩)) (by simp only [RK.val?,ev,updo,upd];simp [a0]) ?_
 refine kC (v:=.pointer (some ⟨B,o,none⟩)) (by simp only [RK.val?,ev,updo,upd,if_true]) ?_
 refine kC (v:=.pointer (some ⟨B,o,none⟩)) (by simp only [RK.val?,ev,updo,upd,if_true,Addr.kK,Nat.add_zero]) ?_
 refine kC (v:=.map (some r)) (by simp only [RK.val?,ev,updo,upd,if_true,hc]) ?_
 refine kX ?_
 refine hml _ 17 _ (by simp only [updo,upd,if_true]) ?_
 refine kX ?_
 simp only [RK.run,ev,updo,upd,if_true]
 refine ⟨by omega,by omega,by omega,by omega,?_⟩
 intro Tn
 simp only [Int.toNat_natCast,Int.toNat_zero]
 have bR:=Blk.new w (zrep m.length [.int .u32 0]) Tn
 have m1:Mod [] w (w.alloc (.cells (zrep m.length [.int .u32 0]).toArray Tn)):=Mod.alloc _ _ _
 have z1:(w.alloc (.cells (zrep m.length [.int .u32 0]).toArray Tn)).heap.size=w.heap.size+1:=by simp
 generalize w.alloc (.cells (zrep m.length [.int .u32 0]).toArray Tn)=w1 at bR m1 z1 ⊢
 refine kX ?_
 intro Tn2
 have bS:=Blk.new w1 [.slice none 0 0] Tn2
 obtain ⟨k1,k2,k3⟩:=wV w1 [.slice none 0 0] [.slice (some ⟨w.heap.size,0,none⟩) 0 m.length] Tn2 rfl (by simp [Value.oneCell'])
 have z2:(w1.alloc (.cells [Value.slice none 0 0].toArray Tn2)).heap.size=w1.heap.size+1:=by simp
 generalize w1.alloc (.cells [Value.slice none 0 0].toArray Tn2)=w2 at bS k1 k2 k3 z2 ⊢
 refine kX ?_
 have ec:(Value.slice (some ⟨w.heap.size,0,none⟩) 0 m.length).cells.toList=[.slice (some ⟨w.heap.size,0,none⟩) 0 m.length]:=rfl
 simp only [RK.run,ev,updo,upd,if_true,show (19:Nat)≠4 by decide,if_false,ec]
 refine ⟨rfl,k1,?_⟩
 have z3:(putCells w2 ⟨w1.heap.size,0,none⟩ 0 [.slice (some ⟨w.heap.size,0,none⟩) 0 m.length]).heap.size=w2.heap.size:=zX ..
 generalize putCells w2 ⟨w1.heap.size,0,none⟩ 0 [.slice (some ⟨w.heap.size,0,none⟩) 0 m.length]=w3 at k2 k3 z3 ⊢
 have m03:Mod [] w w3:=m1.trans k3
 have bR3:=bR.mod k3 (by simp)
 refine kE ?_
 rw [wpC_seq,wpC_seq,kD]
 have hc3:w3.cell? ⟨B,o,none⟩=some (.map (some r)):=zH hc m03 (by simp)
 have he13:w3.heap[r]?=some (.map es clock):=by rw [m03.block r hrl (by simp)];exact he1
 refine kC (v:=.pointer (some ⟨B,o,none⟩)) (by simp only [RK.val?,ev,upd];simp [a0]) ?_
 refine kC (v:=.pointer (some ⟨B,o,none⟩)) (by simp only [RK.val?,ev,updo,upd,if_true]) ?_
 refine kC (v:=.pointer (some ⟨B,o,none⟩)) (by simp only [RK.val?,ev,updo,upd,if_true,Addr.kK,Nat.add_zero]) ?_
 refine kC (v:=.map (some r)) (by simp only [RK.val?,ev,updo,upd,if_true,hc3]) ?_
 refine kX ?_
 simp only [RK.run,ev,updo,upd,if_true,he13]
 refine kE ?_
 have m4:Mod [] w3 (w3.alloc (.mapIter (some r) clock #[] clock)):=Mod.alloc _ _ _
 have hit:(w3.alloc (.mapIter (some r) clock #[] clock)).heap[w3.heap.size]?=some (.mapIter (some r) clock #[] clock):=heap_alloc_new _ _
 have he14:(w3.alloc (.mapIter (some r) clock #[] clock)).heap[r]?=some (.map es clock):=by rw [m4.block r (by have:=m03.size;omega) (by simp)];exact he13
 have bR4:=bR3.mod m4 (by simp)
 have bS4:=k2.mod m4 (by simp)
 generalize w3.alloc (.mapIter (some r) clock #[] clock)=w4 at m4 hit he14 bR4 bS4 ⊢
 have hzl:(zrep m.length [Value.int .u32 0]).length=m.length:=by simp [zrep]
 refine kLZ (w0:=w) (it:=w3.heap.size) (Bs:=w1.heap.size) (B:=w.heap.size) (r:=r) (n:=m.length) (es:=es) (clock:=clock)
  ⟨by simp [upd],by simp [upd],he14,⟨#[],hit,⟨by simp,by simp,by simp⟩⟩,by simpa using bS4,⟨_,by simpa using bR4,by simpa using hzl⟩,m03.trans m4,by omega,by omega,by omega,⟨by have:=m03.size;omega,by omega,by omega⟩,hesl.symm,m03.size,by omega,Nat.le_refl _⟩
  he2.keys he3 he4 fun σ5 w5 E a5 hK hperm=>?_
 have q0:σ5 0=.pointer (some ⟨B,o,none⟩):=by rw [a5 0 (by omega) (by omega)];simp [upd,a0]
 have q1:σ5 1=.func (.func g) #[] captured.toArray:=by rw [a5 1 (by omega) (by omega)];simp [upd,a1]
 simp only [kF]
 have hEl:E.length=m.length:=by rw [hperm.length_eq];simpa using hesl
 obtain ⟨rest,hrow,hrl2⟩:=hK.row
 have hr0:rest=[]:=List.length_eq_zero_iff.1 (by omega)
 subst hr0
 -- the keys as numbers
 have hEk:(E.map (·.key)).Perm ((m.map (·.1)).map u32v):=by rw [←he2.klist];exact hperm.map _
 obtain ⟨ks,hks⟩ :∃ks:List Nat,E.map (·.key)=ks.map u32v:=by
  refine ⟨(E.map (·.key)).map (fun v=>match v with|.int _ n=>n.toNat|_=>0),?_⟩
  rw [List.map_map]
  conv=>lhs;rw [←List.map_id (E.map (·.key))]
  apply List.map_congr_left
  intro x hx
  have:=hEk.mem_iff.1 hx
  obtain ⟨k,-,rfl⟩:=List.mem_map.1 this
  simp [u32v]
 rw [hks] at hEk
 have hkp:ks.Perm (m.map (·.1)):=kIH hEk
 have hkl:ks.length=m.length:=by have:=hkp.length_eq;simpa using this
 have hrow':Blk w5 w.heap.size (ks.map u32v):=by rw [←hks];simpa using hrow
 have hcell5:Blk w5 w1.heap.size [.slice (some ⟨w.heap.size,0,none⟩) ks.length ks.length]:=by rw [hkl];have:=hK.cell;rwa [hEl] at this
 rw [wpC_seq,kD]
 refine kC (v:=.slice (some ⟨w.heap.size,0,none⟩) ks.length ks.length) (by simp only [RK.val?,ev,hK.s4];exact hcell5.cell 0) ?_
 refine kC (v:=.iface (F kAH) (.slice (some ⟨w.heap.size,0,none⟩) ks.length ks.length)) (by simp only [RK.val?,ev,updo,upd,if_true]) ?_
 refine kC (v:=.func (.func (F wW)) #[] #[.pointer (some ⟨w1.heap.size,0,none⟩)]) (by simp only [RK.val?,List.map_cons,List.map_nil,ev,updo,upd];simp [hK.s4]) ?_
 refine xD (vs:=[.iface (F kAH) (.slice (some ⟨w.heap.size,0,none⟩) ks.length ks.length),.func (.func (F wW)) #[] #[.pointer (some ⟨w1.heap.size,0,none⟩)]]) (by simp only [List.map_cons,List.map_nil,ev,updo,upd];simp)
  (hsort w5 w.heap.size w1.heap.size ks hrow' hcell5 (by omega) (by omega) (fun k hk=>he2.lt32 k (hkp.mem_iff.1 hk))) ?_
 rintro e w6 ⟨rfl,ks',hp',hs',hrow6,m6⟩
 refine ⟨_,rfl,?_⟩
 have hl':ks'.length=ks.length:=hp'.length_eq
 have m06:Mod [] w w6:=Mod.drop (b:=w.heap.size) (S:=[]) (hK.fr.nil.trans m6) (Nat.le_refl _)
 have hcell6:=hcell5.mod m6 (by simp;omega)
 refine kE ?_
 rw [wpC_seq,kD]
 refine kC (v:=.slice (some ⟨w.heap.size,0,none⟩) ks.length ks.length) (by
  simp only [RK.val?,ev,updo,upd,show (4:Nat)≠36 by decide,show (4:Nat)≠35 by decide,show (4:Nat)≠34 by decide,show (4:Nat)≠33 by decide,if_false,hK.s4]
  exact hcell6.cell 0) ?_
 refine kC (v:=.int .i64 ks.length) (by simp only [RK.val?,ev,updo,upd,if_true]) ?_
 refine kC (v:=.int .i64 0) rfl ?_
 refine kE ?_
 have nS :∀{x},w.heap.size≤x→x ∉ S:=fun hx hs=>by have:=hSl _ hs;omega
 have hM2:y9 (fun b=>okv b∧b<w.heap.size) w r m:=hM.mod (Mod.refl [] _) (by simp) (by simp) fun b hb hx=>⟨hx,hb⟩
 refine kL0 (w0:=w) (wN:=w6) (okv:=okv) (I:=I) (by rw [kKW hM.keys (hp'.trans hkp) hs'];exact hcb) hbody (r:=r) (m:=m) (ks:=ks') (R:=w.heap.size) (by simp only [updo,upd];simp [q0]) (by simp only [updo,upd];simp [q1]) (by simp only [updo,upd];simp [hl']) (by simp only [updo,upd];simp [hl']) (by simp only [updo,upd];simp) m06 rfl hrow6
  (zH hc m06 (by simp)) (hM.mod m06 (by simp) (by simp) fun _ _ h=>h) hB (hr r rfl) (nS (Nat.le_refl _)) hS hmv (fun k hk=>hkp.mem_iff.1 (hp'.mem_iff.1 hk)) (by omega) (hI w6 m06) fun σ7 w7 hI7 hm7=>?_
 simp only [postC,rvals,List.mapM_nil,Option.pure_def,tup]
 refine ⟨trivial,w6,m06,?_,hm7⟩
 rw [←kKW hM.keys (hp'.trans hkp) hs'];exact hI7
end
structure AC where
 f:FuncId
 g:Option FuncId
 deriving Inhabited
def AC.sel (a:AC) (x:Bool):FuncId:=match a.g with|none=>a.f|some g=>if x then a.f else g
def AC.fx (a:AC):Bool:=a.g.isSome
def acB (t y:Nat) (f:FuncId):IC:=.blk [⟨some t,.mv (.tmp 1),none⟩,⟨some (t+1),.mv (.tmp y),none⟩,⟨some (t+2),.call f [.tmp t,.tmp (t+1)],none⟩,⟨some 1,.mv (.tmp (t+2)),none⟩]
def AC.gen (t y:Nat) (a:AC):List IC :=
 match a.g with
 | none=>[acB t y a.f]
 | some g=>[.blk [⟨some t,.mv (.tmp 6),none⟩],.cond (.tmp t) (acB (t+1) y a.f) (acB (t+4) y g)]
def AC.nt (a:AC):Nat:=match a.g with|none=>3|some _=>7
def lcB (nul:Bool) (t y:Nat) (f:FuncId):IC :=
 if nul then .blk [⟨some t,.mv (.tmp 1),none⟩,⟨some (t+1),.mv (.tmp y),none⟩,⟨some (t+2),.len (.tmp (t+1)),none⟩,⟨some (t+3),.mv (.tmp y),none⟩,⟨some (t+4),.isnil .sl false (.tmp (t+3)),none⟩,⟨some (t+5),.call f [.tmp t,.tmp (t+2),.tmp (t+4)],none⟩,⟨some 1,.mv (.tmp (t+5)),none⟩]
 else .blk [⟨some t,.mv (.tmp 1),none⟩,⟨some (t+1),.mv (.tmp y),none⟩,⟨some (t+2),.len (.tmp (t+1)),none⟩,⟨some (t+3),.call f [.tmp t,.tmp (t+2)],none⟩,⟨some 1,.mv (.tmp (t+3)),none⟩]
def lcN (nul:Bool):Nat:=if nul then 6 else 4
def AC.lgen (nul:Bool) (t y:Nat) (a:AC):IC :=
 match a.g with
 | none=>lcB nul t y a.f
 | some g=>.seq (.blk [⟨some t,.mv (.tmp 6),none⟩]) (.cond (.tmp t) (lcB nul (t+1) y a.f) (lcB nul (t+1+lcN nul) y g))
def AC.lnt (nul:Bool) (a:AC):Nat:=match a.g with|none=>lcN nul|some _=>1+2*lcN nul
def lstA (v t nb nx:Nat) (body:List IC):List IC :=
 [.blk [⟨some t,.mv (.tmp v),none⟩,⟨some (t+1),.len (.tmp t),none⟩,⟨some (t+2),.mv (.const (.int .i64 0)),none⟩],
  .block nb (.loop (.seq (.blk [⟨some (t+3),.bin .lss (.tmp (t+2)) (.tmp (t+1)),none⟩]) (.seq (.cond (.tmp (t+3)) .skip (.exit nb)) (.seq (.block (nb+1) (seqs (.blk [⟨some (t+4),.mv (.tmp (t+2)),none⟩,⟨some (v+1),.mv (.tmp (t+4)),none⟩]::body)))
   (.blk [⟨some nx,.bin .add (.tmp (t+2)) (.const (.int .i64 1)),none⟩,⟨some (t+2),.mv (.tmp nx),none⟩])))))]
inductive Ap where
 | nil
 | prm (vc:VC) (cp:Bool) (p:PK) (a:AC) (rest:Ap)
 | uid (vc:VC) (f:FuncId) (rest:Ap)
 | vst (vc:VC) (V:Int) (a1 a2:AC) (rest:Ap)
 | lsp (vc:VC) (nul:Bool) (ln:AC) (p:PK) (a:AC) (rest:Ap)
 | lss (vc:VC) (nul:Bool) (ln:AC) (sz:Nat) (body rest:Ap)
 | sub (vc:VC) (sz:Nat) (body rest:Ap)
 | tags (ln uv ap:FuncId)
 deriving Inhabited
def Ap.nv:Ap→Nat
 | .nil=>0
 | .prm _ cp _ _ rest=>(if cp then 2 else 1)+rest.nv
 | .uid _ _ rest=>1+rest.nv
 | .vst _ _ _ _ rest=>3+rest.nv
 | .lsp _ _ _ _ _ rest=>3+rest.nv
 | .lss _ _ _ _ body rest=>3+body.nv+rest.nv
 | .sub _ _ body rest=>1+body.nv+rest.nv
 | .tags _ _ _=>0
def Ap.nb:Ap→Nat
 | .nil=>0
 | .prm _ _ _ _ rest=>rest.nb
 | .uid _ _ rest=>rest.nb
 | .vst _ _ _ _ rest=>rest.nb
 | .lsp _ _ _ _ _ rest=>2+rest.nb
 | .lss _ _ _ _ body rest=>2+body.nb+rest.nb
 | .sub _ _ body rest=>body.nb+rest.nb
 | .tags _ _ _=>0
def Ap.nt:Ap→Nat
 | .nil=>0
 | .prm vc cp _ a rest=>vc.nt+(4+(if cp then 1 else 0)+a.nt)+rest.nt
 | .uid vc _ rest=>vc.nt+7+rest.nt
 | .vst vc _ a1 a2 rest=>vc.nt+(12+a1.nt+a2.nt)+rest.nt
 | .lsp vc nul ln _ a rest=>vc.nt+(4+ln.lnt nul+(9+a.nt+1))+rest.nt
 | .lss vc nul ln _ body rest=>vc.nt+(4+ln.lnt nul+(8+body.nt+1))+rest.nt
 | .sub vc _ body rest=>vc.nt+(3+body.nt)+rest.nt
 | .tags _ _ _=>14
def E0:RE:=⟨0,5,6,2,4,true,0,0⟩
def z16:List Value:=List.replicate 16 (.int .u8 0)
def vstA (sp off nv:Nat) (V:Int) (a1 a2:AC) (t:Nat):IC :=
 seqs [ldF sp nv t off,.blk [⟨some (t+4),.mv (.tmp 5),none⟩,⟨some (t+5),.bin .lss (.tmp (t+4)) (.const (.int .i16 V)),none⟩],
  .cond (.tmp (t+5))
   (seqs (.blk [⟨some (nv+1),.mv (.const (.string .empty)),none⟩] ::
    .seq (.blk [⟨some (t+6),.mv (.tmp nv),none⟩,⟨some (t+7),.isnil .pt true (.tmp (t+6)),none⟩])
     (.cond (.tmp (t+7)) (.blk [⟨some (t+8),.mv (.tmp nv),none⟩,⟨some (t+9),.nilc (.tmp (t+8)),none⟩,⟨some (t+10),.ld (.tmp (t+9)),none⟩,⟨some (nv+1),.mv (.tmp (t+10)),none⟩]) .skip) ::
    .blk [⟨some (t+11),.mv (.tmp (nv+1)),none⟩,⟨some (nv+2),.mv (.tmp (t+11)),none⟩]::a1.gen (t+12) (nv+2)))
   (seqs (a2.gen (t+12+a1.nt) nv))]
def Ap.gen:Ap→(sp off nv nt nb:Nat)→List IC
 | .nil,_,_,_,_,_=>[]
 | .prm vc cp _ a rest,sp,off,nv,nt,nb =>
   vc.wrap E0 nt (fun t=>seqs (ldF sp nv t off::(if cp then cpF nv (nv+1) (t+4)::a.gen (t+5) (nv+1) else a.gen (t+4) nv))) ::
    rest.gen sp (off+1) (nv+(if cp then 2 else 1)) (nt+(vc.nt+(4+(if cp then 1 else 0)+a.nt))) nb
 | .uid vc f rest,sp,off,nv,nt,nb =>
   vc.wrap E0 nt (fun t=>.seq (.blk [⟨some t,.mv (.tmp sp),none⟩,⟨some (t+1),.nilc (.tmp t),none⟩,⟨some (t+2),.fad (.tmp (t+1)) off,none⟩,⟨some (t+3),.ldn (.tmp (t+2)) 16,none⟩,⟨some nv,.alloc z16,none⟩,⟨none,.st (.tmp nv) 16 (.tmp (t+3)),none⟩])
    (.blk [⟨some (t+4),.mv (.tmp 1),none⟩,⟨some (t+5),.ldn (.tmp nv) 16,none⟩,⟨some (t+6),.call f [.tmp (t+4),.tmp (t+5)],none⟩,⟨some 1,.mv (.tmp (t+6)),none⟩])) ::
    rest.gen sp (off+16) (nv+1) (nt+(vc.nt+7)) nb
 | .vst vc V a1 a2 rest,sp,off,nv,nt,nb =>
   vc.wrap E0 nt (fun t=>vstA sp off nv V a1 a2 t)::rest.gen sp (off+1) (nv+3) (nt+(vc.nt+(12+a1.nt+a2.nt))) nb
 | .lsp vc nul ln _ a rest,sp,off,nv,nt,nb =>
   vc.wrap E0 nt (fun t=>seqs (ldF sp nv t off::ln.lgen nul (t+4) nv::lstA nv (t+4+ln.lnt nul) nb (t+4+ln.lnt nul+9+a.nt)
    (.blk [⟨some (t+4+ln.lnt nul+5),.mv (.tmp nv),none⟩,⟨some (t+4+ln.lnt nul+6),.mv (.tmp (nv+1)),none⟩,⟨some (t+4+ln.lnt nul+7),.iad (.tmp (t+4+ln.lnt nul+5)) (.tmp (t+4+ln.lnt nul+6)) 1,none⟩,⟨some (t+4+ln.lnt nul+8),.ld (.tmp (t+4+ln.lnt nul+7)),none⟩,⟨some (nv+2),.mv (.tmp (t+4+ln.lnt nul+8)),none⟩] ::
     a.gen (t+4+ln.lnt nul+9) (nv+2)))) ::
    rest.gen sp (off+1) (nv+3) (nt+(vc.nt+(4+ln.lnt nul+(9+a.nt+1)))) (nb+2)
 | .lss vc nul ln sz body rest,sp,off,nv,nt,nb =>
   vc.wrap E0 nt (fun t=>seqs (ldF sp nv t off::ln.lgen nul (t+4) nv::lstA nv (t+4+ln.lnt nul) nb (t+4+ln.lnt nul+8+body.nt)
    (.blk [⟨some (t+4+ln.lnt nul+5),.mv (.tmp nv),none⟩,⟨some (t+4+ln.lnt nul+6),.mv (.tmp (nv+1)),none⟩,⟨some (t+4+ln.lnt nul+7),.iad (.tmp (t+4+ln.lnt nul+5)) (.tmp (t+4+ln.lnt nul+6)) sz,none⟩,⟨some (nv+2),.mv (.tmp (t+4+ln.lnt nul+7)),none⟩] ::
     body.gen (nv+2) 0 (nv+3) (t+4+ln.lnt nul+8) (nb+2)))) ::
    rest.gen sp (off+1) (nv+(3+body.nv)) (nt+(vc.nt+(4+ln.lnt nul+(8+body.nt+1)))) (nb+(2+body.nb))
 | .sub vc sz body rest,sp,off,nv,nt,nb =>
   vc.wrap E0 nt (fun t=>seqs (.blk [⟨some t,.mv (.tmp sp),none⟩,⟨some (t+1),.nilc (.tmp t),none⟩,⟨some (t+2),.fad (.tmp (t+1)) off,none⟩,⟨some nv,.mv (.tmp (t+2)),none⟩]::body.gen nv 0 (nv+1) (t+3) nb)) ::
    rest.gen sp (off+sz) (nv+(1+body.nv)) (nt+(vc.nt+(3+body.nt))) (nb+body.nb)
 | .tags ln uv ap,sp,off,_,t,_ =>
   [.seq (.blk [⟨some t,.mv (.tmp 6),none⟩]) (.cond (.tmp t)
    (.seq (.blk [⟨some (t+1),.mv (.tmp 1),none⟩,⟨some (t+2),.mv (.tmp sp),none⟩,⟨some (t+3),.nilc (.tmp (t+2)),none⟩,⟨some (t+4),.fad (.tmp (t+3)) off,none⟩,⟨some (t+5),.call ln [.tmp (t+4)],none⟩,⟨some (t+6),.conv .u32 (.tmp (t+5)),none⟩,
      ⟨some (t+7),.bin .add (.const (.int .u32 0)) (.tmp (t+6)),none⟩,⟨some (t+8),.call uv [.tmp (t+1),.tmp (t+7)],none⟩,⟨some 1,.mv (.tmp (t+8)),none⟩])
     (.blk [⟨some (t+9),.mv (.tmp sp),none⟩,⟨some (t+10),.nilc (.tmp (t+9)),none⟩,⟨some (t+11),.fad (.tmp (t+10)) off,none⟩,⟨some (t+12),.mv (.tmp 1),none⟩,⟨some (t+13),.call ap [.tmp (t+11),.tmp (t+12)],none⟩,⟨some 1,.mv (.tmp (t+13)),none⟩])) .skip)]
structure ATop where
 flex:Option Int
 ap:Ap
 deriving Inhabited
def ATop.n0 (T:ATop):Nat:=if T.flex.isSome then 7 else 6
def ATop.t0 (T:ATop):Nat:=T.n0+T.ap.nv
def ATop.tf (T:ATop):Nat:=T.t0+5+(if T.flex.isSome then 3 else 0)
def ATop.gen (T:ATop):IC×List RV×Nat :=
 (seqs ([.blk [⟨some 4,.mv (.const (.slice none 0 0)),none⟩],ldF 0 5 T.t0 0,.blk [⟨some (T.t0+4),.mv (.tmp 5),none⟩]] ++
  ((match T.flex with
    | none=>[]
    | some n=>[.blk [⟨some (T.t0+5),.mv (.tmp 5),none⟩,⟨some (T.t0+6),.bin .geq (.tmp (T.t0+5)) (.const (.int .i16 n)),none⟩,⟨some 6,.mv (.tmp (T.t0+6)),none⟩],.blk [⟨some (T.t0+7),.mv (.tmp 6),none⟩]]) ++
  (T.ap.gen 0 1 T.n0 T.tf 0++[.blk [⟨some (T.tf+T.ap.nt),.mv (.tmp 1),none⟩,⟨some 4,.mv (.tmp (T.tf+T.ap.nt)),none⟩],.ret]))),[.tmp 4],T.tf+T.ap.nt+1)
def Kp (NV nv nt:Nat) (σ σ':Sl):Prop :=∀j,j≠1→(j<nv∨(NV≤j∧j<nt))→σ' j=σ j
theorem Kp.trans {NV nv nt nv' nt' nv'' nt'':Nat} {σ σ' σ'':Sl} (h:Kp NV nv nt σ σ') (h':Kp NV nv' nt' σ' σ'') (a:nv''≤nv) (b:nt''≤nt) (a':nv''≤nv') (b':nt''≤nt'):Kp NV nv'' nt'' σ σ'' :=
 fun j h1 h2=>(h' j h1 (h2.imp (fun h=>by omega) fun h=>by omega)).trans (h j h1 (h2.imp (fun h=>by omega) fun h=>by omega))
section
variable {P:Program}
attribute [local simp] gOk updo upd ev RK.val? kL kM Addr.kK qE Value.cells undef
end
def ATop.x (T:ATop) (ver:Int):Bool:=match T.flex with|some n=>decide (ver≥n)|none=>false
section
variable {P:Program} {f:FuncId}
attribute [local simp] gOk updo upd ev RK.val? kL kM Addr.kK qE Value.cells undef
end
def kBV (z:List Value) (dfl:FuncId):IC×List RV×Nat :=
 (.seq (.blk [⟨some 0,.mv (.const (.pointer none)),none⟩]) (.seq (.blk [⟨some 1,.alloc z,none⟩]) (.seq (.blk [⟨some 2,.call dfl [.tmp 1],none⟩]) (.seq (.blk [⟨some 0,.mv (.tmp 1),none⟩]) .ret))),[.tmp 0],3)
def kCZ (v:Int):IC×List RV×Nat :=
 (.seq (.blk [⟨some 2,.mv (.const (.int .i16 0)),none⟩]) (.seq (.blk [⟨some 2,.mv (.const (.int .i16 v)),none⟩]) .ret),[.tmp 2],3)
def kC0:IC×List RV×Nat :=
 (.blk [⟨some 4,.mv (.tmp 0),none⟩,⟨some 5,.mv (.tmp 1),none⟩,⟨some 6,.nilc (.tmp 4),none⟩,⟨some 7,.fad (.tmp 6) 0,none⟩,⟨none,.st (.tmp 7) 1 (.tmp 5),none⟩],[],8)
def kII (f:FuncId) (u:Bool):IC×List RV×Nat :=
 (.seq (.blk [⟨some 4,.mv (.const .nilIface),none⟩]) (.seq (.blk [⟨some 5,.mv (.tmp 0),none⟩,⟨some 6,.mv (.tmp 1),none⟩,⟨some 7,.call f [.tmp 5,.tmp 6,.const (.bool u)],none⟩,⟨some 4,.mv (.tmp 7),none⟩]) .ret),[.tmp 4],8)
def uJ (newp mxv:FuncId):IC×List RV×Nat :=
 (.seq (.blk [⟨some 0,.mv (.const (.int .i64 0)),none⟩]) (.seq (.blk [⟨some 1,.call newp [],none⟩,⟨some 2,.call mxv [.tmp 1],none⟩,⟨some 3,.conv .i64 (.tmp 2),none⟩,⟨some 0,.mv (.tmp 3),none⟩]) .ret),[.tmp 0],4)
section
variable {P:Program}
attribute [local simp] bnd wpC wpR RI.wp gOk RK.run kF kR updo upd ev qE postC rvals RV.val zR kL
theorem kKY (hm:P.follows .mixedOrders=true) {f dfl:FuncId} {z d:List Value} (h:kH P f=some (kBV z dfl)) (hd:DfC P dfl z d) {w:World} :
  Calls P f #[] w fun e w'=>e=.returned (.pointer (some ⟨w.heap.size,0,none⟩))∧Blk w' w.heap.size d∧Mod [] w w':=by
 refine kT (args:=[]) h hm (by simp) ?_
 simp
 intro T
 have hb:=Blk.new w z T
 have hm1:Mod [] w (w.alloc (.cells z.toArray T)):=Mod.alloc _ _ _
 have:=hd (w.alloc (.cells z.toArray T)) w.heap.size [] [] (by simpa using hb)
 refine (show Calls P dfl _ _ _ from this).mono ?_
 rintro e w' ⟨rfl,h1,h2⟩
 refine ⟨⟨_,rfl⟩,by simpa using h1,?_⟩
 exact Mod.drop (b:=w.heap.size) (S:=[]) (hm1.nil.trans h2) (Nat.le_refl _)
theorem kPQ (hm:P.follows .mixedOrders=true) {f:FuncId} {v:Int} (h:kH P f=some (kCZ v)) {w:World} {p:Value} :
  Calls P f [p].toArray w fun e w'=>e=.returned (.int .i16 v)∧w'=w:=by
 refine kT h hm (by simp) ?_
 simp
theorem kPR (hm:P.follows .mixedOrders=true) {f:FuncId} (h:kH P f=some kC0) {w:World} {b:Nat} {v:Int} {x:Value} {cs:List Value} (hb:Blk w b (x::cs)) :
  Calls P f [.pointer (some ⟨b,0,none⟩),.int .i16 v].toArray w fun e w'=>e=.returned (.tuple #[])∧Blk w' b (.int .i16 v::cs)∧Mod [b] w w':=by
 refine kT h hm (by simp) ?_
 have hput:Mod [b] w (putCells w ⟨b,0,none⟩ 0 [.int .i16 v]):=Mod.put (by simp)
 have hp:=hb.put (o:=0) (vs:=[.int .i16 v]) (by simp)
 have e:splice (x::cs) 0 [.int .i16 v]=.int .i16 v::cs:=by simp [splice]
 rw [e] at hp
 simp [Addr.kK,Value.cells]
 exact ⟨yN hb (by simp) rfl,by simp [tup],hp,hput⟩
theorem rf_call (hm:P.follows .mixedOrders=true) {f g:FuncId} {u:Bool} (h:kH P f=some (kII g u)) {w:World} {p s:Value} {R:Ending→World→Prop} (hR :∀e w',R e w' →∃v,e=.returned v)
  (hc:Calls P g [p,s,.bool u].toArray w R):Calls P f [p,s].toArray w R:=by
 refine kT h hm (by simp) ?_
 simp
 refine hc.mono fun e w' he=>?_
 obtain ⟨v,rfl⟩:=hR e w' he
 exact ⟨v,rfl,he⟩
theorem kJY (hm:P.follows .mixedOrders=true) {f newp mxv dfl:FuncId} {z d:List Value} {v:Int} (h:kH P f=some (uJ newp mxv)) (hn:kH P newp=some (kBV z dfl)) (hd:DfC P dfl z d) (hx:kH P mxv=some (kCZ v)) (hv:0≤v∧v<32768) {w:World} :
  Calls P f #[] w fun e w'=>e=.returned (.int .i64 v)∧Mod [] w w':=by
 refine kT (args:=[]) h hm (by simp) ?_
 simp
 refine (kKY hm hn hd).mono ?_
 rintro e w1 ⟨rfl,-,hm1⟩
 refine ⟨_,rfl,?_⟩
 refine (show Calls P mxv _ _ _ from kPQ hm hx).mono ?_
 rintro e w2 ⟨rfl,rfl⟩
 have e1:IntKind.i64.wrap v=v:=by simp [IntKind.wrap,IntKind.bits,IntKind.signed];omega
 simp [e1,hm1]
end
section
variable {P:Program}
attribute [local simp] gOk updo upd ev RK.val? kL kM Addr.kK qE Value.cells undef
theorem goCopy {x d:Nat} {r:List RI} {σ:Sl} {w:World} {v:Value} {l:List UInt8} {ok:Nat→Prop} {Q:Sl→World→Prop} (hx:σ x=v) (hv:SlC ok w v l.length (u8s l)) (hl:l.length≤lim)
  (h :∀v' w',DRaw w' w.heap.size v' l→Mod [] w w'→wpR P r (upd σ d v') w' Q):wpR P (⟨some d,.append (.const (.slice none 0 0)) (.tmp x) 1 1,none⟩::r) σ w Q:=by
 refine goC rfl ?_
 refine qR (n0:=w.heap.size) (v:=.slice none 0 0) (l:=[]) (k:=l) rfl ⟨.inl ⟨rfl,rfl⟩⟩ (Nat.le_refl _) (by simpa [ev,hx] using hv.src) (by simpa using hl) fun v' w' ha=>?_
 exact h v' w' (by simpa using ha.raw) (by simpa [ownB] using ha.mod)
end
def behCode (newp setv rf ap:FuncId):IC×List RV×Nat :=
 (.seq (.blk [⟨some 6,.mv (.const (.slice none 0 0)),none⟩,⟨some 7,.mv (.const (.bool false)),none⟩])
  (.seq (.blk [⟨some 9,.call newp [],none⟩,⟨some 8,.mv (.tmp 9),none⟩])
  (.seq (.blk [⟨some 10,.mv (.tmp 8),none⟩,⟨some 11,.mv (.tmp 0),none⟩,⟨some 12,.conv .i16 (.tmp 11),none⟩,⟨some 13,.call setv [.tmp 10,.tmp 12],none⟩])
  (.seq (.seq (.blk [⟨some 14,.mv (.tmp 8),none⟩,⟨some 15,.mv (.tmp 2),none⟩,⟨some 16,.append (.const (.slice none 0 0)) (.tmp 15) 1 1,none⟩,⟨some 17,.call rf [.tmp 14,.tmp 16],none⟩,⟨some 18,.isnil .ic true (.tmp 17),none⟩])
   (.cond (.tmp 18) (.seq (.blk [⟨some 6,.mv (.const (.slice none 0 0)),none⟩,⟨some 7,.mv (.const (.bool false)),none⟩]) .ret) .skip))
  (.seq (.blk [⟨some 19,.mv (.tmp 8),none⟩,⟨some 20,.mv (.tmp 1),none⟩,⟨some 21,.append (.const (.slice none 0 0)) (.tmp 20) 1 1,none⟩,⟨some 22,.call ap [.tmp 19,.tmp 21],none⟩,⟨some 6,.mv (.tmp 22),none⟩,⟨some 7,.mv (.const (.bool true)),none⟩])
  .ret)))),[.tmp 6,.tmp 7],23)
section
variable {P:Program}
attribute [local simp] gOk updo upd ev RK.val? kL kM Addr.kK qE Value.cells undef
end
theorem kBW (n:Nat):0<(uvE n).length:=by
 rw [uvE];split<;>simp
section
variable {P:Program} {F:Nat→Nat}
attribute [local simp] gOk updo upd ev RK.val? kL kM Addr.kK qE Value.cells undef
theorem kC1 (hm:P.follows .mixedOrders=true) (h:kH P (F kBH)=some (ir_sWidth F)) {w:World} {k:Int} :
  Calls P (F kBH) [.int .i64 k].toArray w fun e w'=>e=.returned (.int .i64 (zJ k))∧w'=w:=by
 unfold ir_sWidth at h
 refine kT h hm (by simp) ?_
 clear h
 by_cases h1:k=1
 ·simp [wpC,wpR,RI.wp,RK.run,kF,kR,postC,rvals,RV.val,h1,zR,zJ]
 ·by_cases h2:k=2
  ·simp [wpC,wpR,RI.wp,RK.run,kF,kR,postC,rvals,RV.val,h2,zR,zJ]
  ·by_cases h5:k=5
   ·simp [wpC,wpR,RI.wp,RK.run,kF,kR,postC,rvals,RV.val,h5,zR,zJ]
   ·by_cases h3:k=3
    ·simp [wpC,wpR,RI.wp,RK.run,kF,kR,postC,rvals,RV.val,h3,zR,zJ]
    ·simp [wpC,wpR,RI.wp,RK.run,kF,kR,postC,rvals,RV.val,beq_eq_false_iff_ne.2 h1,beq_eq_false_iff_ne.2 h2,beq_eq_false_iff_ne.2 h3,beq_eq_false_iff_ne.2 h5,h1,h2,h3,h5,zR,zJ]
theorem app1 {x y:Operand} {d1 d2:Nat} {w w0:World} {σ:Sl} {v:Value} {l:List UInt8} {b:UInt8} {r:List RI} {Q:Sl→World→Prop} (_hx:ev (upd σ d1 v) x=ev σ x) (_hv:ev σ x=v) (hd:DRaw w w0.heap.size v l) (hm:Mod [] w0 w) (hy:ev σ y=.int .u8 b.toNat)
  (hx2 :∀u,ev (upd σ d1 u) x=v) (hl:l.length+1≤lim) (hQ :∀u w' v',DRaw w' w0.heap.size v' (l++[b])→Mod [] w0 w'→wpR P r (upd (upd σ d1 u) d2 v') w' Q) :
  wpR P (⟨some d1,.bslice 1 [.int .u8 0] [(0,1,y)],none⟩::⟨some d2,.append x (.tmp d1) 1 1,none⟩::r) σ w Q:=by
 refine goC rfl ?_
 refine kJU (bs:=[b]) (by simp only [List.map_cons,List.map_nil,hy];rfl) rfl fun u w1 hs hm1=>?_
 refine goC rfl ?_
 refine qR (n0:=w0.heap.size) (v:=v) (hx2 u) (hd.keep hm1) (hm.trans hm1).size (k:=[b]) (by simpa using hs) (by simpa using hl) fun v' w2 ha=>?_
 exact hQ u w2 v' ha.raw (ha.mod0 (hd.keep hm1) (hm.trans hm1))
theorem xS (hm:P.follows .mixedOrders=true) (h:kH P (F yU)=some (ir_sFixed F)) {w:World} {n:Int} {k:Nat} (hk:k≤8) :
  Calls P (F yU) [.int .i64 n,.int .i64 (k:Nat)].toArray w (uY w (beI k n)):=by
 unfold ir_sFixed at h
 refine kT h hm (by simp) ?_
 clear h
 rw [wpC_seq,kD]
 refine go1 rfl rfl (kE ?_)
 rw [wpC_seq,kD]
 refine go1 rfl rfl (kE ?_)
 rw [wpC_seq,wpC_seq,kD]
 iterate 3 (apply go1 rfl;(· simp<;>rfl))
 refine kE ?_
 rw [wpC_block,wpC_loop]
 refine ⟨fun σ w' =>∃(m:Nat) (pre:List UInt8),m≤k∧beI k n=pre++beI m n∧σ 0=.int .i64 n∧σ 6=.int .i64 ((m:Int)-1)∧DRaw w' w.heap.size (σ 5) pre∧Mod [] w w',
  fun σ _=>match σ 6 with|.int _ j=>(j+1).toNat|_=>0,?_,?_⟩
 ·refine ⟨k,[],Nat.le_refl _,rfl,by simp,?_,by simpa using DRaw.nil w _,Mod.refl _ _⟩
  simp only [updo,upd,if_true]
  congr 1
  simp only [IntKind.wrap,IntKind.bits,IntKind.signed];simp<;>omega
 ·rintro σ w1 ⟨m,pre,hmk,hpre,h0,h6,hd,hm1⟩
  have hlen:pre.length+m=k:=by
   have:=congrArg List.length hpre
   simp only [zL,List.length_append] at this;omega
  rw [wpC_seq,wpC_seq,kD]
  refine go1 (v:=.int .i64 ((m:Int)-1)) rfl (by simp [h6]) ?_
  refine go1 (v:=.bool (decide ((m:Int)-1≥0))) rfl (by simp) ?_
  refine kE ?_
  cases m with
  | zero =>
    rw [kG (by simp)]
    refine wE ?_
    simp only [kF]
    rw [wpC_seq,kD]
    refine go1 (v:=σ 5) rfl (by simp) ?_
    refine go1 (v:=σ 5) rfl (by simp) ?_
    refine kE (ret1 (v:=σ 5) (by simp) ⟨_,rfl,?_,hm1⟩)
    rw [hpre];simpa [beI] using hd
  | succ m =>
    rw [kI (by simp),wpC_skip]
    simp only [kF]
    rw [wpC_seq,wpC_block,kD]
    refine go1 (v:=σ 5) rfl (by simp) ?_
    refine go1 (v:=.int .i64 n) rfl (by simp [h0]) ?_
    refine go1 (v:=.int .i64 (m:Nat)) rfl (by simp [h6]) ?_
    refine go1 (v:=.int .i64 ((8*m:Nat):Int)) rfl (by
     simp only [RK.val?,ev,updo,upd,kL,decide_true,Bool.or_true,if_true,kM]
     rw [show (8:Int)*(m:Nat)=((8*m:Nat):Int) by omega,xR (by omega)]) ?_
    refine go1 (v:=.int .i64 (n/256^m)) rfl (by
     simp only [RK.val?,ev,updo,upd,kL,Bool.true_or,if_true,if_false,show (14:Nat)≠16 by decide,show (14:Nat)≠15 by decide]
     rw [shr_i64 n (8*m) (by omega),pow_256]) ?_
    refine go1 (v:=.int .u8 ((UInt8.ofNat (n/256^m%256).toNat).toNat:Int)) rfl (by
     simp only [RK.val?,ev,updo,upd,if_true]
     rw [u8vz]) ?_
    refine app1 (v:=σ 5) (w0:=w) (b:=UInt8.ofNat (n/256^m%256).toNat) (by simp) (by simp) hd hm1 (by simp) (by simp) (by unfold lim;omega) fun u w2 v' hd2 hm2=>?_
    refine go1 (v:=v') rfl (by simp) ?_
    refine kP ?_
    simp only [kF,kR]
    rw [kD]
    refine go1 (v:=.int .i64 (m:Nat)) rfl (by simp [h6]) ?_
    refine go1 (v:=.int .i64 ((m:Int)-1)) rfl (by
     simp only [RK.val?,ev,updo,upd,kL,decide_true,Bool.or_true,if_true,kM]
     congr 2
     simp only [IntKind.wrap,IntKind.bits,IntKind.signed];simp<;>omega) ?_
    refine go1 (v:=.int .i64 ((m:Int)-1)) rfl (by simp) ?_
    refine kE ⟨⟨m,pre++[UInt8.ofNat (n/256^m%256).toNat],by omega,?_,by simp [h0],by simp,by simpa using hd2,hm2⟩,?_⟩
    ·rw [hpre,beI];simp
    ·simp [h6]
theorem jS (hm:P.follows .mixedOrders=true) (h:kH P (F z8)=some (ir_sUvarint F)) {w:World} {n:Nat} (hn:n<18446744073709551616) :
  Calls P (F z8) [.int .u64 (n:Nat)].toArray w (uY w (uvE n)):=by
 unfold ir_sUvarint at h
 refine kT h hm (by simp) ?_
 clear h
 rw [wpC_seq,kD]
 refine go1 rfl rfl (kE ?_)
 rw [wpC_seq,kD]
 refine go1 rfl rfl (kE ?_)
 rw [wpC_seq,wpC_block,wpC_loop]
 refine ⟨fun σ w' =>∃(m:Nat) (pre:List UInt8),m≤n∧uvE n=pre++uvE m∧pre.length≤n-m∧pre.length+m≤n∧pre.length≤64∧m*2^pre.length≤n∧σ 0=.int .u64 (m:Nat)∧DRaw w' w.heap.size (σ 3) pre∧Mod [] w w',
  fun σ _=>match σ 0 with|.int _ j=>j.toNat|_=>0,?_,?_⟩
 ·exact ⟨n,[],Nat.le_refl _,rfl,by simp,by simp,by simp,by simp,by simp,by simpa using DRaw.nil w _,Mod.refl _ _⟩
 ·rintro σ w1 ⟨m,pre,hmn,hpre,hl1,hl2,hl64,hpow,h0,hd,hm1⟩
  rw [wpC_seq,wpC_seq,kD]
  refine go1 (v:=.int .u64 (m:Nat)) rfl (by simp [h0]) ?_
  refine go1 (v:=.bool (decide ((m:Int)>127))) rfl (by simp) ?_
  refine kE ?_
  by_cases hs:m<128
  ·rw [kG (by simp;omega)]
   refine wE ?_
   simp only [kF]
   rw [wpC_seq,kD]
   refine go1 (v:=σ 3) rfl (by simp) ?_
   refine go1 (v:=.int .u64 (m:Nat)) rfl (by simp [h0]) ?_
   refine go1 (v:=.int .u8 ((UInt8.ofNat m).toNat:Int)) rfl (by
    simp only [RK.val?,ev,updo,upd,if_true]
    rw [kJV (by omega)]) ?_
   refine app1 (v:=σ 3) (w0:=w) (b:=UInt8.ofNat m) (by simp) (by simp) hd hm1 (by simp) (by simp) (by unfold lim;omega) fun u w2 v' hd2 hm2=>?_
   refine go1 (v:=v') rfl (by simp) ?_
   refine kE (ret1 (v:=v') (by simp) ⟨_,rfl,?_,hm2⟩)
   rw [hpre,kAN hs];exact hd2
  ·rw [kI (by simp;omega),wpC_skip]
   simp only [kF]
   rw [wpC_block,wpC_seq,kD]
   have h256:m%128+128<256:=by omega
   refine go1 (v:=σ 3) rfl (by simp) ?_
   refine go1 (v:=.int .u64 (m:Nat)) rfl (by simp [h0]) ?_
   refine go1 (v:=.int .u64 ((m%128:Nat):Int)) rfl (by simp only [RK.val?,ev,updo,upd,if_true,kL,decide_true,Bool.or_true,kLY (n:=m) (by omega)]) ?_
   refine go1 (v:=.int .u8 ((m%128:Nat):Int)) rfl (by
    simp only [RK.val?,ev,updo,upd,if_true]
    rw [kJV (by omega)]
    simp;omega) ?_
   refine go1 (v:=.int .u8 ((m%128+128:Nat):Int)) rfl (by simp only [RK.val?,ev,updo,upd,if_true,kL,decide_true,Bool.or_true,kPN (x:=m%128) (by omega)]) ?_
   have e8:Value.int .u8 ((m%128+128:Nat):Int)=.int .u8 ((UInt8.ofNat (m%128+128)).toNat:Int):=by simp;omega
   rw [e8]
   have hp64:pre.length<64:=by
    rcases Nat.lt_or_ge pre.length 64 with h|h
    ·exact h
    ·have:pre.length=64:=by omega
     rw [this] at hpow
     have:128*2^64≤m*2^64:=Nat.mul_le_mul_right _ (by omega)
     omega
   refine app1 (v:=σ 3) (w0:=w) (b:=UInt8.ofNat (m%128+128)) (by simp) (by simp) hd hm1 (by simp) (by simp) (by unfold lim;omega) fun u w2 v' hd2 hm2=>?_
   refine go1 (v:=v') rfl (by simp) ?_
   refine kE ?_
   rw [kD]
   refine go1 (v:=.int .u64 (m:Nat)) rfl (by simp [h0]) ?_
   refine go1 (v:=.int .u64 ((m/128:Nat):Int)) rfl (by
    simp only [RK.val?,ev,updo,upd,if_true,kL,Bool.true_or]
    have:=shr_u64 m 7 (by omega)
    simpa using this) ?_
   refine go1 (v:=.int .u64 ((m/128:Nat):Int)) rfl (by simp) ?_
   refine kP ?_
   simp only [kR,kF]
   refine ⟨⟨m/128,pre++[UInt8.ofNat (m%128+128)],by omega,?_,?_,?_,?_,?_,by simp,by simpa using hd2,hm2⟩,?_⟩
   ·rw [hpre,kCY (by omega)];simp
   ·simp;omega
   ·simp;omega
   ·simp;omega
   ·simp only [List.length_append,List.length_cons,List.length_nil,Nat.zero_add,Nat.pow_succ]
    have:m/128*(2^pre.length*2)≤m*2^pre.length:=by
     rw [Nat.mul_comm (2^pre.length) 2,←Nat.mul_assoc]
     exact Nat.mul_le_mul_right _ (by omega)
    omega
   ·simp [h0];omega
theorem kAS (hm:P.follows .mixedOrders=true) (h:kH P (F yG)=some (ir_sCounted F)) (hu:kH P (F z8)=some (ir_sUvarint F)) (hf:kH P (F yU)=some (ir_sFixed F)) {w:World} {flex null:Bool} {n size:Nat} (hn:n<9223372036854775807) (hs:size≤8) :
  Calls P (F yG) [.bool flex,.bool null,.int .i64 (n:Nat),.int .i64 (size:Nat)].toArray w (uY w (zD flex null n size)):=by
 unfold ir_sCounted at h
 refine kT h hm (by simp) ?_
 clear h
 rw [wpC_seq,kD]
 refine go1 rfl rfl (kE ?_)
 rw [wpC_seq,wpC_block,wpC_seq,kD]
 cases flex with
 | true =>
   cases null with
   | true =>
     iterate 5 (first|(apply go1;(· simp);(· simp<;>rfl))|(apply go0;(· simp)))
     refine kE ?_
     rw [kI (by simp),wpC_seq,kD]
     refine goC rfl ?_
     simp only [RK.run]
     rw [show zW (zrep 1 [.int .u8 0]) _=some (u8s [0]) from rfl]
     intro T
     have hb:=Blk.new w (u8s [0]) T
     refine go1 rfl rfl (kE ?_)
     repeat first|refine zP ?_|refine j3 ?_
     refine ret1 (v:=.slice (some ⟨w.heap.size,0,none⟩) 1 1) (by simp) ⟨_,rfl,?_,Mod.alloc _ _ _⟩
     exact ⟨.inr ⟨w.heap.size,1,[],rfl,Nat.le_refl _,Nat.le_refl _,by simpa [zD] using hb,rfl⟩⟩
   | false =>
     iterate 5 (first|(apply go1;(· simp);(· simp<;>rfl))|(apply go0;(· simp)))
     refine kE ?_
     rw [kG (by simp),wpC_seq,kD]
     iterate 2 (first|(apply go1;(· simp);(· simp<;>rfl))|(apply go0;(· simp)))
     refine kE ?_
     rw [kI (by simp),wpC_seq,kD]
     refine go1 (v:=.int .i64 (n:Nat)) rfl (by simp) ?_
     refine go1 (v:=.int .u64 (n:Nat)) rfl (by simp [xL (n:=n) (by omega)]) ?_
     refine go1 (v:=.int .u64 ((n+1:Nat):Int)) rfl (by
      simp only [RK.val?,ev,updo,upd,if_true,kL,decide_true,Bool.or_true,kM]
      rw [show (n:Int)+1=((n+1:Nat):Int) by omega,xL (by omega)]) ?_
     refine qF rfl (vs:=[.int .u64 ((n+1:Nat):Int)]) (by simp) (jS hm hu (by omega)) ?_
     rintro e w' ⟨v,rfl,h1,h2⟩
     refine ⟨v,rfl,go1 (v:=v) rfl (by simp) (kE ?_)⟩
     repeat first|refine zP ?_|refine j3 ?_
     exact ret1 (v:=v) (by simp) ⟨v,rfl,h1,h2⟩
 | false =>
   iterate 5 (first|(apply go1;(· simp);(· simp<;>rfl))|(apply go0;(· simp)))
   refine kE ?_
   rw [kG (by simp),wpC_seq,kD]
   iterate 2 (first|(apply go1;(· simp);(· simp<;>rfl))|(apply go0;(· simp)))
   refine kE ?_
   rw [kG (by simp),wpC_seq,kD]
   iterate 2 (first|(apply go1;(· simp);(· simp<;>rfl))|(apply go0;(· simp)))
   refine kE ?_
   cases null with
   | true =>
     rw [kI (by simp),wpC_seq,kD]
     refine go1 (v:=.int .i64 (size:Nat)) rfl (by simp) ?_
     refine qF rfl (vs:=[.int .i64 (-1),.int .i64 (size:Nat)]) (by simp) (xS hm hf hs) ?_
     rintro e w' ⟨v,rfl,h1,h2⟩
     refine ⟨v,rfl,go1 (v:=v) rfl (by simp) (kE ?_)⟩
     repeat first|refine zP ?_|refine j3 ?_
     exact ret1 (v:=v) (by simp) ⟨v,rfl,h1,h2⟩
   | false =>
     rw [kG (by simp),wpC_skip]
     simp only [kF,kR]
     rw [wpC_seq,kD]
     refine go1 (v:=.int .i64 (n:Nat)) rfl (by simp) ?_
     refine go1 (v:=.int .i64 (size:Nat)) rfl (by simp) ?_
     refine qF rfl (vs:=[.int .i64 (n:Nat),.int .i64 (size:Nat)]) (by simp) (xS hm hf hs) ?_
     rintro e w' ⟨v,rfl,h1,h2⟩
     refine ⟨v,rfl,go1 (v:=v) rfl (by simp) (kE ?_)⟩
     exact ret1 (v:=v) (by simp) ⟨v,rfl,h1,h2⟩
end
end Go.Msk
