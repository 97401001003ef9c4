/- A small language of resolved operations, and what the generic and the generated functions do in it (part 16). -/
import Derived.Test.YtfoljfjkifiboaaGreatDoorFo
namespace Go.Msk
open Go.RowKit
set_option maxRecDepth 100000
section
variable {P:Program} {F:Nat→Nat}
attribute [local simp] bnd wpC wpR RI.wp gOk RK.run kF kR updo upd ev qE postC rvals RV.val zR kL
theorem kN1 {N:Nat} {w w3:World} {Pb b2 Ob:Nat} {n:Int} {sv lv uv0:Value} {null:Bool} {u:List (Nat×List UInt8)} {uss:List (List Value)} {σ:Sl} {Q:Exit→Sl→World→Prop}
  (hw:Mod [] w w3∨(Mod [Ob] w w3)) (_hN:N≤w.heap.size) (hu:SlC (fun b=>b<N) w uv0 u.length uss.flatten) (hr:RepU (fun b=>b<N) w u uss) (hlen:u.length≤2147483647)
  (hob:Blk w3 Ob [.int .i64 n,sv,.bool null,lv,.slice none 0 0]) (hoN:N≤Ob)
  (h1:σ 1=.pointer (some ⟨Pb,0,none⟩)) (h2:σ 2=.pointer (some ⟨b2,0,none⟩)) (h3:σ 3=.pointer (some ⟨Ob,0,none⟩)) (hpb:w3.cell? ⟨Pb,4,none⟩=some uv0)
  (hQ :∀σ' w' uv ucs,σ' 2=.pointer (some ⟨b2,0,none⟩)→σ' 3=.pointer (some ⟨Ob,0,none⟩)→GU w3 w' Ob n sv lv uv null N u ucs→ucs.length=u.length→Q .normal σ' w') :
  wpC P (.seq (.blk [⟨some 30,.fad (.tmp 1) 4,none⟩,⟨some 31,.ld (.tmp 30),none⟩,⟨some 32,.len (.tmp 31),none⟩,⟨some 33,.mv (.const (.int .i64 0)),none⟩])
   (.block 2 (.loop (.seq (.blk [⟨some 34,.bin .lss (.tmp 33) (.tmp 32),none⟩]) (.seq (.cond (.tmp 34) .skip (.exit 2))
    (.seq (.block 3 (.seq (.blk [⟨some 35,.iad (.tmp 31) (.tmp 33) 2,none⟩,⟨some 36,.ldn (.tmp 35) 2,none⟩,⟨some 7,.alloc uzero,none⟩,⟨none,.st (.tmp 7) 2 (.tmp 36),none⟩])
      (.blk [⟨some 37,.fad (.tmp 3) 4,none⟩,⟨some 38,.ld (.tmp 37),none⟩,⟨some 39,.fad (.tmp 7) 0,none⟩,⟨some 40,.ld (.tmp 39),none⟩,⟨some 41,.fad (.tmp 7) 1,none⟩,⟨some 42,.ld (.tmp 41),none⟩,
        ⟨some 43,.build uzero [(0,1,.tmp 40),(1,1,.tmp 42)],none⟩,⟨some 44,.bslice 1 uzero [(0,2,.tmp 43)],none⟩,⟨some 45,.append (.tmp 38) (.tmp 44) 2 32,none⟩,⟨some 46,.fad (.tmp 3) 4,none⟩,⟨none,.st (.tmp 46) 1 (.tmp 45),none⟩])))
     (.blk [⟨some 47,.bin .add (.tmp 33) (.const (.int .i64 1)),none⟩,⟨some 33,.mv (.tmp 47),none⟩])))))))
   Q σ w3:=by
 obtain ⟨lb,lc,elv⟩:=hu.shape
 have hol:=hob.lt
 have hw':Mod [Ob] w w3:=hw.elim (·.nil) id
 rw [wpC_seq,kD]
 refine kC (v:=.pointer (some ⟨Pb,4,none⟩)) (by simp [RK.val?,h1,Addr.kK]) ?_
 refine kC (v:=uv0) (by simp [RK.val?,hpb]) ?_
 refine kC (v:=.int .i64 u.length) (by simp [RK.val?,elv]) ?_
 refine kC (v:=.int .i64 0) (by simp [RK.val?]) ?_
 simp only [wpR,kF]
 rw [wpC_block,wpC_loop]
 refine ⟨fun σ1 w1 =>∃j uv ucs,j≤u.length∧σ1 2=.pointer (some ⟨b2,0,none⟩)∧σ1 3=.pointer (some ⟨Ob,0,none⟩)∧σ1 31=uv0∧σ1 32=.int .i64 u.length∧σ1 33=.int .i64 j ∧
   GU w3 w1 Ob n sv lv uv null N (u.take j) ucs∧ucs.length=j,
  fun σ1 _=>u.length-(match σ1 33 with|.int _ j=>j.toNat|_=>0),⟨0,.slice none 0 0,[],Nat.zero_le _,by simp [h2],by simp [h3],by simp,by simp,by simp,⟨hob,⟨by simp,.inl ⟨rfl,rfl⟩⟩,by simpa using .nil,Mod.refl _ _,hol,hoN⟩,rfl⟩,?_⟩
 rintro σ1 w1 ⟨j,uv,ucs,hj,s2,s3,s31,s32,s33,hgs,htl⟩
 rw [wpC_seq,kD]
 refine kC (v:=.bool (decide ((j:Int)<u.length))) (by simp [RK.val?,s32,s33,kM]) ?_
 simp only [wpR,kF]
 rw [wpC_seq]
 by_cases hlt:j<u.length
 ·rw [kI (by simp [hlt]),wpC_skip]
  simp only [kF]
  rw [wpC_seq,wpC_block,wpC_seq,kD]
  obtain ⟨tj,htj⟩ :∃t,u[j]?=some t:=⟨u[j],List.getElem?_eq_getElem hlt⟩
  have hmw:Mod [Ob] w w1:=hw'.trans hgs.mod
  have hNob :∀b∈[Ob],¬b<N:=fun b hb=>by simp only [List.mem_singleton] at hb;have:=hgs.nob;omega
  obtain ⟨vj,hcj,hrj⟩:=(hr.mod (ok':=fun b=>b<N) hmw hNob fun _ _ h=>h).nth htj
  obtain ⟨pa,pc,ep,-,hcells⟩:=(hu.mod (ok':=fun b=>b<N) hmw hNob fun _ _ h=>h).flat hr.length hr.two hcj
  obtain ⟨vb,vc,evj⟩:=hrj.shape
  refine kC (v:=.pointer (some (pa.add (j*2)))) (by simp [RK.val?,s31,s33,ep,hlt]) ?_
  refine kC (v:=.agg [.int .u32 tj.1,vj].toArray) (by simp [RK.val?,hcells]) ?_
  refine kX ?_
  intro Ty
  obtain ⟨q1,q2,q3⟩:=wV w1 uzero [.int .u32 tj.1,vj] Ty rfl (by rw [evj];simp [Value.oneCell'])
  refine kX ?_
  have ec':(Value.agg [.int .u32 tj.1,vj].toArray).cells.toList=[.int .u32 tj.1,vj]:=rfl
  simp only [RK.run,ev,updo,upd]
  simp only [if_true,show (36:Nat)≠7 by decide,if_false,ec']
  refine ⟨rfl,q1,?_⟩
  generalize hw4:putCells (w1.alloc (.cells uzero.toArray Ty)) ⟨w1.heap.size,0,none⟩ 0 [.int .u32 tj.1,vj]=w4 at q2 q3
  simp only [wpR,kF]
  rw [kD]
  have hob4:=hgs.ob.mod q3 (by simp)
  have hraw4:x9 w4 w3.heap.size uv ucs:=⟨hgs.raw.two,hgs.raw.sl.imp id fun ⟨BA,cap,rest,g1,g2,g3,g4,g5⟩=>⟨BA,cap,rest,g1,g2,g3,g4.mod q3 (by simp),g5⟩⟩
  have c0:=q2.cell 0
  have c1:=q2.cell 1
  refine kC (v:=.pointer (some ⟨Ob,4,none⟩)) (by simp [RK.val?,s3,Addr.kK]) ?_
  refine kC (v:=uv) (by simp [RK.val?];exact hob4.cell 4) ?_
  refine kC (v:=.pointer (some ⟨w1.heap.size,0,none⟩)) (by simp [RK.val?,Addr.kK]) ?_
  refine kC (v:=.int .u32 tj.1) (by simp [RK.val?];simpa using c0) ?_
  refine kC (v:=.pointer (some ⟨w1.heap.size,1,none⟩)) (by simp [RK.val?,Addr.kK]) ?_
  refine kC (v:=vj) (by simp [RK.val?];simpa using c1) ?_
  refine kC (v:=.agg [.int .u32 tj.1,vj].toArray) (by simp [RK.val?,uzero,zW,splice,Value.cells,evj]) ?_
  refine kX ?_
  have hf:zW (zrep 1 uzero) [(0,2,Value.agg [.int .u32 tj.1,vj].toArray)]=some [.int .u32 tj.1,vj]:=by
   simp [zrep,uzero,zW,splice,Value.cells]
  simp only [RK.run,List.map_cons,List.map_nil,ev,updo,upd,if_true,hf]
  intro T5
  have hm5:Mod [] w4 (w4.alloc (.cells [.int .u32 tj.1,vj].toArray T5)):=Mod.alloc _ _ _
  have hb5:Blk (w4.alloc (.cells [.int .u32 tj.1,vj].toArray T5)) w4.heap.size [.int .u32 tj.1,vj]:=Blk.new _ _ _
  generalize w4.alloc (.cells [.int .u32 tj.1,vj].toArray T5)=w5 at hm5 hb5
  have hob5:=hob4.mod hm5 (by simp)
  have hraw5:x9 w5 w3.heap.size uv ucs:=⟨hraw4.two,hraw4.sl.imp id fun ⟨BA,cap,rest,g1,g2,g3,g4,g5⟩=>⟨BA,cap,rest,g1,g2,g3,g4.mod hm5 (by simp),g5⟩⟩
  have hm15:Mod [] w1 w5:=q3.trans hm5
  have hm35:Mod [Ob] w3 w5:=hgs.mod.trans hm15.nil
  refine kX ?_
  refine kC3 (lv:=uv) (n0:=w3.heap.size) (by simp) hraw5 hm35.size (by simp) hb5 rfl (by rw [evj];simp [Value.oneCell']) (by omega) fun uv' w6 hraw6 hown=>?_
  have hlob:=hgs.lob
  have hge :∀b,own uv=some b→w3.heap.size≤b:=fun b hb=>by
   rcases hraw5.sl with ⟨e,-⟩|⟨BA,cap,rest,e,g2,g3,-⟩
   ·rw [e] at hb;simp [own] at hb
   ·rw [e] at hb;simp only [own,Option.some.injEq] at hb;omega
  have hnN:N≤w3.heap.size:=by have:=hgs.nob;omega
  have key:Blk w6 Ob [.int .i64 n,sv,.bool null,lv,uv]∧Mod [Ob] w3 w6∧RepU (fun b=>b<N) w6 (u.take j++[tj]) (ucs++[[.int .u32 tj.1,vj]]):=by
   have hS :∀b∈(own uv).toList,own uv=some b:=fun b hb=>by simpa using hb
   have hrep5:RepU (fun b=>b<N) w5 (u.take j++[tj]) (ucs++[[.int .u32 tj.1,vj]]):=(hgs.rep.mod hm15 (by simp) fun _ _ h=>h).append (.cons (hrj.mod hm15 (by simp) fun _ _ h=>h) .nil)
   rcases hown with ⟨⟨ho,hm⟩,-⟩|⟨ho,hm⟩
   ·refine ⟨hob5.mod hm (fun hc=>by have:=hge _ (hS _ hc);omega),?_,hrep5.mod hm (fun b hb hc=>by have:=hge _ (hS _ hb);omega) fun _ _ h=>h⟩
    refine ⟨hm.os.trans hm35.os,hm.tape.trans hm35.tape,hm.output.trans hm35.output,Nat.le_trans hm35.size hm.size,fun k hk hn=>?_⟩
    rw [hm.block k (Nat.lt_of_lt_of_le hk hm35.size) (fun hc=>by have:=hge _ (hS _ hc);omega)]
    exact hm35.block k hk hn
   ·exact ⟨hob5.mod hm (by simp),hm35.trans hm.nil,hrep5.mod hm (by simp) fun _ _ h=>h⟩
  obtain ⟨k1,k2,k3⟩:=key
  have o1:uv'.cells=#[uv']∧uv'.oneCell'=true:=by
   rcases hraw6.sl with ⟨e,-⟩|⟨BA,cap,rest,e,-⟩<;>subst e<;>exact ⟨rfl,rfl⟩
  have hput:Mod [Ob] w6 (putCells w6 ⟨Ob,4,none⟩ 0 [uv']):=Mod.put (by simp)
  have hp:=k1.put (o:=4) (vs:=[uv']) (by simp)
  have e1:splice [Value.int .i64 n,sv,.bool null,lv,uv] 4 [uv']=[.int .i64 n,sv,.bool null,lv,uv']:=by simp [splice]
  rw [e1] at hp
  refine kC (v:=.pointer (some ⟨Ob,4,none⟩)) (by simp [RK.val?,s3,Addr.kK]) ?_
  refine kX ?_
  simp only [RK.run,ev,updo,upd,if_true,show (45:Nat)≠46 by decide,if_false,o1.1]
  refine ⟨rfl,yN k1 (by simp) o1.2,?_⟩
  have hge' :∀b,own uv'=some b→w3.heap.size≤b:=fun b hb=>by
   rcases hraw6.sl with ⟨e,-⟩|⟨BA,cap,rest,e,g2,g3,-⟩
   ·rw [e] at hb;simp [own] at hb
   ·rw [e] at hb;simp only [own,Option.some.injEq] at hb;omega
  simp only [wpR,kR,kF]
  have hw:IntKind.i64.wrap ((j:Int)+1)=((j+1:Nat):Int):=by
   simp only [IntKind.wrap,IntKind.bits,IntKind.signed];simp;omega
  rw [kD]
  refine kC (v:=.int .i64 ((j+1:Nat):Int)) (by simp [RK.val?,kM,s33,hw]) ?_
  refine kC (v:=.int .i64 ((j+1:Nat):Int)) (by simp [RK.val?]) ?_
  simp only [wpR,kF]
  refine ⟨⟨j+1,uv',ucs++[[.int .u32 tj.1,vj]],hlt,by simp [s2],by simp [s3],by simp [s31],by simp [s32],by simp,?_,by simp [htl]⟩,?_⟩
  ·rw [List.take_add_one,htj]
   refine ⟨by simpa using hp,⟨hraw6.two,hraw6.sl.imp id fun ⟨BA,cap,rest,g1,g2,g3,g4,g5⟩=>⟨BA,cap,rest,g1,g2,g3,by simpa using g4.mod hput (by have:=hge' BA (by rw [g1];rfl);simp;omega),g5⟩⟩,?_,by simpa using k2.trans hput,hlob,hgs.nob⟩
   exact k3.mod hput (fun b hb hc=>by simp only [List.mem_singleton] at hb;have:=hgs.nob;omega) fun _ _ h=>h
  ·simp [s33];show u.length-(j+1)<u.length-j;omega
 ·rw [kG (by simp;omega)]
  have hje:j=u.length:=by omega
  subst hje
  rw [List.take_length] at hgs
  simp only [wpC,kR,kF,if_true]
  exact hQ _ w1 uv ucs (by simp [s2]) (by simp [s3]) hgs htl
end
end Go.Msk
namespace Go.Msk
open Go.RowKit
set_option maxRecDepth 100000
mutual
/-- Lists within what Go can hold. -/
def TR.small:TR→Prop
 | .mk _ s _ l u=>s.length≤2147483647∧l.length≤2147483647∧u.length≤2147483647∧(∀x∈u,x.2.length≤2147483647)∧TR.xN l
def TR.xN:List TR→Prop
 | []=>True
 | t::l=>t.small∧TR.xN l
end
theorem TR.kFU :∀{l:List TR},TR.xN l →∀t∈l,t.small
 | [],_,t,h=>by simp at h
 | a::l,hs,t,h=>by
   simp only [TR.xN] at hs
   rcases List.mem_cons.1 h with rfl|h
   ·exact hs.1
   ·exact TR.kFU hs.2 t h
section
variable {P:Program} {F:Nat→Nat}
theorem LRaw.slc {w:World} {n0:Nat} {lv:Value} {css:List (List Value)} (h:LRaw w n0 lv css) {ok:Nat→Prop} (hok :∀b,n0≤b→ok b):SlC ok w lv css.length css.flatten:=by
 rcases h.sl with ⟨rfl,rfl⟩|⟨BA,cap,rest,rfl,q2,q3,q4,q5⟩
 ·exact SlC.nil
 ·refine ⟨some ⟨BA,0,none⟩,cap,rfl,q2,fun h=>by simp at h,fun a ha _=>?_⟩
  simp only [Option.some.injEq] at ha;subst ha
  refine ⟨hok _ q3,q4.lt,?_⟩
  have:=q4.cells.take css.flatten.length
  rwa [List.take_left] at this
theorem x9.slc {w:World} {n0:Nat} {lv:Value} {css:List (List Value)} (h:x9 w n0 lv css) {ok:Nat→Prop} (hok :∀b,n0≤b→ok b):SlC ok w lv css.length css.flatten:=by
 rcases h.sl with ⟨rfl,rfl⟩|⟨BA,cap,rest,rfl,q2,q3,q4,q5⟩
 ·exact SlC.nil
 ·refine ⟨some ⟨BA,0,none⟩,cap,rfl,q2,fun h=>by simp at h,fun a ha _=>?_⟩
  simp only [Option.some.injEq] at ha;subst ha
  refine ⟨hok _ q3,q4.lt,?_⟩
  have:=q4.cells.take css.flatten.length
  rwa [List.take_left] at this
theorem got_one (hm:P.follows .mixedOrders=true) (h:kH P (F lGot)=some (ir_lGot F)) {n:Int} {s:List UInt8} {null:Bool} {l:List TR} {u:List (Nat×List UInt8)} (hf :∀t∈l,kJT P (F lGot) t)
  (hl:l.length≤2147483647) (hul:u.length≤2147483647):kJT P (F lGot) (.mk n s null l u):=by
 intro N w cs hN hrep
 obtain ⟨sv,lv0,uv0,css,uss,rfl,h1,h2,h3,h4,h5⟩ :∃sv lv0 uv0 css uss,cs=[.int .i64 n,sv,.bool null,lv0,uv0]∧SlC (fun b=>b<N) w sv s.length (u8s s)∧SlC (fun b=>b<N) w lv0 l.length css.flatten∧jN (fun b=>b<N) w l css ∧
   SlC (fun b=>b<N) w uv0 u.length uss.flatten∧RepU (fun b=>b<N) w u uss:=by
  cases hrep with|mk h1 h2 h3 h4 h5=>exact ⟨_,_,_,_,_,rfl,h1,h2,h3,h4,h5⟩
 refine kT h hm (by simp) ?_
 have a0:qE [.agg [.int .i64 n,sv,.bool null,lv0,uv0].toArray] 0=.agg [.int .i64 n,sv,.bool null,lv0,uv0].toArray:=rfl
 generalize qE [.agg [.int .i64 n,sv,.bool null,lv0,uv0].toArray]=σ0 at a0 ⊢
 rw [wpC_seq,kD]
 refine kX ?_
 have ec:(Value.agg [.int .i64 n,sv,.bool null,lv0,uv0].toArray).cells.toList=[.int .i64 n,sv,.bool null,lv0,uv0]:=rfl
 simp only [RK.run,ev,a0,ec]
 intro T1
 have b1:=Blk.new w [.int .i64 n,sv,.bool null,lv0,uv0] T1
 have m1:Mod [] w (w.alloc (.cells [.int .i64 n,sv,.bool null,lv0,uv0].toArray T1)):=Mod.alloc _ _ _
 have z1:(w.alloc (.cells [.int .i64 n,sv,.bool null,lv0,uv0].toArray T1)).heap.size=w.heap.size+1:=by simp
 generalize w.alloc (.cells [.int .i64 n,sv,.bool null,lv0,uv0].toArray T1)=w1 at b1 m1 z1 ⊢
 refine kX ?_
 have hz:([Value.int .i64 0,.slice none 0 0,.bool false,.slice none 0 0,.slice none 0 0]:List Value)=tzero:=rfl
 rw [hz]
 simp only [RK.run]
 intro T2
 have b2:=Blk.new w1 tzero T2
 have m2:Mod [] w1 (w1.alloc (.cells tzero.toArray T2)):=Mod.alloc _ _ _
 have z2:(w1.alloc (.cells tzero.toArray T2)).heap.size=w1.heap.size+1:=by simp
 generalize w1.alloc (.cells tzero.toArray T2)=w2 at b2 m2 z2 ⊢
 simp only [wpR,kF]
 rw [wpC_seq,kD]
 have b12:=b1.mod m2 (by simp)
 have s1 :∀x y,updo (updo σ0 (some 1) x) (some 2) y 1=x:=fun x y=>by simp [updo,upd]
 have c0:=b12.cell 0
 have c1:=b12.cell 1
 have c2:=b12.cell 2
 simp only [List.getElem?_cons_zero,List.getElem?_cons_succ] at c0 c1 c2
 obtain ⟨svb,svc,esv⟩:=h1.shape
 refine kC (v:=.pointer (some ⟨w.heap.size,0,none⟩)) (by simp [RK.val?,ev,updo,upd,Addr.kK]) ?_
 refine kC (v:=.int .i64 n) (by simp only [RK.val?,ev,updo,upd_same,c0]) ?_
 refine kC (v:=.pointer (some ⟨w.heap.size,1,none⟩)) (by simp [RK.val?,ev,updo,upd,Addr.kK]) ?_
 refine kC (v:=sv) (by simp only [RK.val?,ev,updo,upd_same,c1]) ?_
 refine kC (v:=.pointer (some ⟨w.heap.size,2,none⟩)) (by simp [RK.val?,ev,updo,upd,Addr.kK]) ?_
 refine kC (v:=.bool null) (by simp only [RK.val?,ev,updo,upd_same,c2]) ?_
 refine kC (v:=.agg [.int .i64 n,sv,.bool null,.slice none 0 0,.slice none 0 0].toArray) (by simp [RK.val?,ev,updo,upd,tzero,zW,splice,Value.cells,esv]) ?_
 refine kX ?_
 simp only [RK.run]
 intro T3
 obtain ⟨q1,q2,q3⟩:=wV w2 tzero [.int .i64 n,sv,.bool null,.slice none 0 0,.slice none 0 0] T3 rfl (by rw [esv];simp [Value.oneCell'])
 refine kX ?_
 have ec2:(Value.agg [.int .i64 n,sv,.bool null,.slice none 0 0,.slice none 0 0].toArray).cells.toList=[.int .i64 n,sv,.bool null,.slice none 0 0,.slice none 0 0]:=rfl
 simp only [RK.run,ev,updo,upd]
 simp only [if_true,show (14:Nat)≠3 by decide,if_false,ec2]
 refine ⟨rfl,q1,?_⟩
 have hsz3:(putCells (w2.alloc (.cells tzero.toArray T3)) ⟨w2.heap.size,0,none⟩ 0 [.int .i64 n,sv,.bool null,.slice none 0 0,.slice none 0 0]).heap.size=w2.heap.size+1:=by rw [zX];simp
 generalize putCells (w2.alloc (.cells tzero.toArray T3)) ⟨w2.heap.size,0,none⟩ 0 [.int .i64 n,sv,.bool null,.slice none 0 0,.slice none 0 0]=w3 at q2 q3 hsz3
 have m03:Mod [] w w3:=(m1.trans m2).trans q3
 simp only [wpR,kF]
 rw [wpC_seq]
 refine kNG (Pb:=w.heap.size) (b2:=w1.heap.size) (Ob:=w2.heap.size) (n:=n) (sv:=sv) (null:=null) hf m03 hN h2 h3 hl q2 (by omega) (by simp [upd]) (by simp [upd]) (by simp [upd]) ((b12.mod q3 (by simp)).cell 3) fun σ4 w4 lv tcs t1 t2 t3 hgs hln=>?_
 simp only [kF]
 rw [wpC_seq]
 have m04:Mod [w2.heap.size] w w4:=m03.nil.trans hgs.mod
 have nO :∀b∈[w2.heap.size],¬b<N:=fun b hb=>by simp only [List.mem_singleton] at hb;omega
 refine kN1 (Pb:=w.heap.size) (b2:=w1.heap.size) (Ob:=w2.heap.size) (n:=n) (sv:=sv) (null:=null) (.inr m04) hN h4 h5 hul hgs.ob (by omega) t1 t2 t3 (((b12.mod q3 (by simp)).mod hgs.mod (by simp;omega)).cell 4) fun σ5 w5 uv ucs r2 r3 hgu hun=>?_
 simp only [kF]
 rw [wpC_seq,kD]
 refine kC (v:=.agg [.int .i64 n,sv,.bool null,lv,uv].toArray) (by simp only [RK.val?,ev,r3,kJ hgu.ob.cells (n:=5) rfl,Option.map_some]) ?_
 have m05:Mod [w2.heap.size] w w5:=m04.trans hgu.mod
 have m45:=hgu.mod
 have own_ne :∀b,own lv=some b→w3.heap.size≤b:=fun b hb=>(hgs.raw.own hb).1
 have hraw5:LRaw w5 w3.heap.size lv tcs:=hgs.raw.mod m45 (fun b hb=>by have:=own_ne b hb;simp;omega)
 have hrep5:jN (fun b=>b<N∨(w3.heap.size≤b∧own lv≠some b)) w5 l tcs:=hgs.rep.mod m45 (fun b hb hc=>by
  simp only [List.mem_singleton] at hb
  rcases hc with hc|hc<;>omega) fun _ _ h=>h
 have hb25:Blk w5 w1.heap.size tzero:=((b2.mod q3 (by simp)).mod hgs.mod (by simp;omega)).mod m45 (by simp;omega)
 have hs5:=h1.mod (ok':=fun b=>b<N) m05 nO fun _ _ h=>h
 have hfin:RepT (fun b=>(b<N∨w.heap.size≤b)∧b≠w1.heap.size) w5 (.mk n s null l u) [.int .i64 n,sv,.bool null,lv,uv]:=by
  refine .mk (css:=tcs) (uss:=ucs) (hs5.mod (Mod.refl [] _) (by simp) fun b _ hb=>⟨.inl hb,by omega⟩) ?_ (hrep5.mod (Mod.refl [] _) (by simp) fun b _ hb=>?_) ?_ (hgu.rep.mod (Mod.refl [] _) (by simp) fun b _ hb=>⟨.inl hb,by omega⟩)
  ·rw [←hln];exact hraw5.slc fun b hb=>⟨.inr (by omega),by omega⟩
  ·rcases hb with hb|hb
   ·exact ⟨.inl hb,by omega⟩
   ·exact ⟨.inr (by omega),by omega⟩
  ·rw [←hun];exact hgu.raw.slc fun b hb=>⟨.inr (by have:=hgs.mod.size;omega),by have:=hgs.mod.size;omega⟩
 have hput:Mod [w1.heap.size] w5 (putCells w5 ⟨w1.heap.size,0,none⟩ 0 [.int .i64 n,sv,.bool null,lv,uv]):=Mod.put (by simp)
 have hp:=hb25.put (o:=0) (vs:=[.int .i64 n,sv,.bool null,lv,uv]) (by simp [tzero])
 rw [jW (by rfl)] at hp
 refine kX ?_
 have ec3:(Value.agg [.int .i64 n,sv,.bool null,lv,uv].toArray).cells.toList=[.int .i64 n,sv,.bool null,lv,uv]:=rfl
 simp only [RK.run,ev,updo,upd]
 simp only [show (2:Nat)≠48 by decide,if_false,if_true,r2,ec3]
 refine ⟨rfl,qL hb25 (by simp [tzero]) hfin.oneCell,?_⟩
 simp only [wpR,wpC,kF,postC,rvals,List.mapM_cons,List.mapM_nil,RV.val,upd,show (2:Nat)≠48 by decide,if_false,r2,kJ hp.cells (n:=5) rfl,Option.bind_eq_bind,Option.map_some,Option.bind_some,Option.pure_def,zR]
 refine ⟨_,rfl,hfin.mod hput (fun b hb hc=>by simp only [List.mem_singleton] at hb;exact hc.2 hb) (fun b _ hb=>hb.1),?_⟩
 refine Mod.drop (b:=w1.heap.size) (S:=[]) ?_ (by omega)
 refine Mod.drop (b:=w2.heap.size) (S:=[w1.heap.size]) ?_ (by omega)
 exact (m05.mono (by simp)).trans (hput.mono (by simp))
theorem kP7 (hm:P.follows .mixedOrders=true) (h:kH P (F lGot)=some (ir_lGot F)) :∀t:TR,t.small→kJT P (F lGot) t:=by
 intro t
 refine TR.rec (motive_1:=fun t=>t.small→kJT P (F lGot) t) (motive_2:=fun l =>∀t∈l,t.small→kJT P (F lGot) t) ?_ ?_ ?_ t
 ·intro n s null l u ih hs
  simp only [TR.small] at hs
  exact got_one hm h (fun t ht=>ih t ht (TR.kFU hs.2.2.2.2 t ht)) hs.2.1 hs.2.2.1
 ·intro t ht;simp at ht
 ·intro a l ih1 ih2 t ht
  rcases List.mem_cons.1 ht with rfl|ht
  ·exact ih1
  ·exact ih2 t ht
end
end Go.Msk
namespace Go.Msk
open Go.RowKit
set_option maxRecDepth 100000
theorem TR.kN2 {l:List TR} (h :∀t∈l,t.small):TR.xN l:=by
 induction l with
 | nil=>trivial
 | cons t l ih=>exact ⟨h t List.mem_cons_self,ih fun x hx=>h x (List.mem_cons_of_mem _ hx)⟩
def GV.sm (g:GV):Prop:=g.told.small ∧∀m,g=.tag m→m.length≤2147483647 ∧∀p∈m,p.2.length≤2147483647
def Df.jJ:Df→Bool
 | .str l=>decide (l.length≤1000)
 | _=>true
theorem Df.small {d:Df} (h:d.jJ=true):d.gv.sm:=by
 refine ⟨?_,fun m e=>by cases d<;>simp [Df.gv] at e⟩
 cases d with
 | str l =>
   simp only [Df.jJ,decide_eq_true_eq] at h
   simp only [Df.gv,Msk.str,GV.told,TR.small,TR.xN]
   simp;omega
 | _=>simp [Df.gv,GV.told,TR.small,TR.xN]
def Sc.len:Sc→Nat
 | .nil=>0
 | .prm _ _ _ _ _ rest=>rest.len+1
 | .enm _ _ _ _ _ rest=>rest.len+1
 | .lsp _ _ _ _ _ _ _ rest=>rest.len+1
 | .lss _ _ _ _ _ _ rest=>rest.len+1
 | .sub _ _ _ rest=>rest.len+1
 | .tags _=>1
 | .uid _ _ rest=>rest.len+1
 | .vst _ _ _ _ rest=>rest.len+1
def Sc.jJ:Sc→Bool
 | .nil=>true
 | .prm _ _ _ _ d rest=>d.jJ&&rest.jJ
 | .enm _ _ _ _ d rest=>d.jJ&&rest.jJ
 | .lsp _ _ _ _ _ _ _ rest=>rest.jJ
 | .lss _ _ _ _ _ body rest=>decide (body.len≤1000)&&body.jJ&&rest.jJ
 | .sub _ _ body rest=>decide (body.len≤1000)&&body.jJ&&rest.jJ
 | .tags _=>true
 | .uid _ _ rest=>rest.jJ
 | .vst _ _ _ _ _=>false
theorem Sc.kJ9 :∀sc:Sc, sc.dgv.length=sc.len:=by
 intro sc
 induction sc with
 | nil=>rfl
 | _=>simp [Sc.dgv, Sc.len, *]
theorem kK6 {l:List UInt8} (h:l.length≤2147483647):(GV.arr l).sm:=by
 refine ⟨?_,fun m e=>by simp at e⟩
 simp only [GV.told,TR.small,TR.xN]
 simpa using h
theorem kN3 (gs:List GV):(GV.vD gs).length≤gs.length:=by
 induction gs with
 | nil=>simp [GV.vD]
 | cons g gs ih=>cases g<;>simp only [GV.vD,List.length_cons]<;>omega
theorem kKA {gs:List GV} (h :∀g∈gs,g.sm):TR.xN (GV.vD gs):=by
 induction gs with
 | nil=>simp [GV.vD,TR.xN]
 | cons g gs ih =>
   have h1:=(h g List.mem_cons_self).1
   have h2:=ih fun x hx=>h x (List.mem_cons_of_mem _ hx)
   cases g with
   | tag m=>simpa only [GV.vD] using h2
   | _=>simp only [GV.vD];exact ⟨h1,h2⟩
theorem kKB {gs:List GV} (h :∀g∈gs,g.sm):(GV.vC gs).length≤2147483647 ∧∀p∈GV.vC gs,p.2.length≤2147483647:=by
 induction gs with
 | nil=>simp [GV.vC]
 | cons g gs ih =>
   have h2:=ih fun x hx=>h x (List.mem_cons_of_mem _ hx)
   cases g with
   | tag m =>
     obtain ⟨k1,k2⟩:=(h _ List.mem_cons_self).2 m rfl
     have hp:=uI m
     exact ⟨by rw [GV.vC,hp.length_eq];exact k1,fun p hx=>k2 p (hp.mem_iff.1 hx)⟩
   | _=>exact h2
theorem vI {gs:List GV} (h1:gs.length≤1000) (h2 :∀g∈gs,g.sm):(GV.rcd gs).sm:=by
 refine ⟨?_,fun m e=>by simp at e⟩
 simp only [GV.told,TR.small]
 have:=kN3 gs
 have k:=kKB h2
 exact ⟨by simp,by omega,k.1,k.2,kKA h2⟩
theorem Sc.kIU :∀sc:Sc,sc.jJ=true →∀g∈sc.dgv,g.sm:=by
 intro sc
 have l0:(GV.lst true 0 []).sm:=⟨by simp [GV.told,GV.wI,TR.small,TR.xN],fun m e=>by simp at e⟩
 induction sc with
 | nil=>intro _ g hg;simp [Sc.dgv] at hg
 | prm vc i r p d rest ih =>
   intro h g hg
   simp only [Sc.jJ,Bool.and_eq_true] at h
   rcases List.mem_cons.1 hg with rfl|hg
   ·exact Df.small h.1
   ·exact ih h.2 g hg
 | enm vc i r p d rest ih =>
   intro h g hg
   simp only [Sc.jJ,Bool.and_eq_true] at h
   rcases List.mem_cons.1 hg with rfl|hg
   ·exact Df.small h.1
   ·exact ih h.2 g hg
 | lsp vc l b d i r p rest ih =>
   intro h g hg
   rcases List.mem_cons.1 hg with rfl|hg
   ·exact l0
   ·exact ih h g hg
 | lss vc l b z d body rest ihb ih =>
   intro h g hg
   simp only [Sc.jJ,Bool.and_eq_true] at h
   rcases List.mem_cons.1 hg with rfl|hg
   ·exact l0
   ·exact ih h.2 g hg
 | sub vc d body rest ihb ih =>
   intro h g hg
   simp only [Sc.jJ,Bool.and_eq_true,decide_eq_true_eq] at h
   rcases List.mem_cons.1 hg with rfl|hg
   ·exact vI (by rw [Sc.kJ9];exact h.1.1) (ihb h.1.2)
   ·exact ih h.2 g hg
 | vst _ _ _ _ rest ih=>intro h;simp [Sc.jJ] at h
 | uid vc f rest ih =>
   intro h g hg
   rcases List.mem_cons.1 hg with rfl|hg
   ·exact kK6 (by simp)
   ·exact ih h g hg
 | tags f =>
   intro h g hg
   simp only [Sc.dgv,List.mem_singleton] at hg
   subst hg
   exact ⟨by simp [GV.told,TR.small,TR.xN,TR.zero],fun m e=>by simp only [GV.tag.injEq] at e;subst e;simp⟩
theorem kN4 {b:Bool} {z:Nat} {l:List GV} (h1:l.length≤2147483647) (h2 :∀g∈l,g.sm):(GV.lst b z l).sm:=by
 refine ⟨?_,fun m e=>by simp at e⟩
 simp only [GV.told,TR.small]
 refine ⟨by simp,by rw [GV.uG];simp;omega,by simp,by simp,TR.kN2 fun t ht=>?_⟩
 rw [GV.uG] at ht
 obtain ⟨g,hg,rfl⟩:=List.mem_map.1 ht
 exact (h2 g hg).1
theorem num_sm {v:Value} (h :∀s,v≠.string s):(GV.num v).sm:=by
 refine ⟨?_,fun m e=>by simp at e⟩
 cases v<;>first|exact absurd rfl (h _)|simp [GV.told,TR.small,TR.xN,TR.zero]
theorem str_sm {l:List UInt8} (h:l.length≤2147483647):(GV.num (Msk.str l)).sm:=by
 refine ⟨?_,fun m e=>by simp at e⟩
 simp only [Msk.str,GV.told,TR.small,TR.xN]
 simpa using h
theorem kG5 (n:Int):IntKind.i64.wrap (IntKind.i64.wrap n)=IntKind.i64.wrap n:=by
 simp only [IntKind.wrap,IntKind.bits,IntKind.signed]
 simp
 omega
def kDV (newp setv rf tell:FuncId):IC×List RV×Nat :=
 (.seq (.blk [⟨some 4,.alloc tzero,none⟩,⟨some 5,.mv (.const (.bool false)),none⟩]) (.seq (.blk [⟨some 7,.call newp [],none⟩,⟨some 6,.mv (.tmp 7),none⟩])
  (.seq (.blk [⟨some 8,.mv (.tmp 6),none⟩,⟨some 9,.mv (.tmp 0),none⟩,⟨some 10,.conv .i16 (.tmp 9),none⟩,⟨some 11,.call setv [.tmp 8,.tmp 10],none⟩])
  (.seq (.seq (.blk [⟨some 12,.mv (.tmp 6),none⟩,⟨some 13,.mv (.tmp 1),none⟩,⟨some 14,.append (.const (.slice none 0 0)) (.tmp 13) 1 1,none⟩,⟨some 15,.call rf [.tmp 12,.tmp 14],none⟩,⟨some 16,.isnil .ic true (.tmp 15),none⟩])
   (.cond (.tmp 16) (.seq (.blk [⟨some 17,.build tzero [],none⟩,⟨none,.st (.tmp 4) 5 (.tmp 17),none⟩,⟨some 5,.mv (.const (.bool false)),none⟩]) .ret) .skip))
  (.seq (.blk [⟨some 18,.mv (.tmp 6),none⟩,⟨some 19,.call tell [.tmp 18],none⟩,⟨none,.st (.tmp 4) 5 (.tmp 19),none⟩,⟨some 5,.mv (.const (.bool true)),none⟩]) .ret)))),
  [.cells 4 5,.tmp 5],20)
section
variable {P:Program} {D:Dec}
end
structure LibI (P:Program) (F:Nat→Nat) (has:Nat→Bool):Prop where
 xH:has Msk.xH=true→kH P (F Msk.xH)=some (ir_iBoolTree F)
 xI:has Msk.xI=true→kH P (F Msk.xI)=some (ir_iTextTree F)
 j6:has Msk.j6=true→kH P (F Msk.j6)=some (ir_iOctetsTree F)
 kEC:has Msk.kEC=true→kH P (F Msk.kEC)=some (ir_tEach F)
 uP:has Msk.uP=true→kH P (F Msk.uP)=some (ir_iSorted F)
 sort:has Msk.kEC=true→kPO P (F uC) (F wW) (F kAH)
section
variable {P:Program} {F:Nat→Nat}
theorem kKC (hm:P.follows .mixedOrders=true) (h:kH P (F xH)=some (ir_iBoolTree F)):(TK.boo (F xH)).Ok P:=by
 intro O w g v hg hr
 obtain ⟨b,rfl⟩:=hg
 have hv:v=.bool b:=by cases hr;rfl
 subst hv
 refine kT h hm (by simp) ?_
 rw [wpC_seq,kD]
 refine kX ?_
 intro T
 have hb2:Blk (w.alloc (.cells tzero.toArray T)) w.heap.size tzero:=Blk.new w tzero T
 have hm1:Mod [] w (w.alloc (.cells tzero.toArray T)):=Mod.alloc _ _ _
 have hz:([Value.int .i64 0,.slice none 0 0,.bool false,.slice none 0 0,.slice none 0 0]:List Value)=tzero:=rfl
 rw [hz]
 have hsz:(w.alloc (.cells tzero.toArray T)).heap.size=w.heap.size+1:=by simp
 generalize w.alloc (.cells tzero.toArray T)=w1 at hb2 hm1 hsz ⊢
 have a0:qE [Value.bool b] 0=.bool b:=rfl
 generalize qE [Value.bool b]=σ0 at a0 ⊢
 show wpC P (.seq (.seq _ _) _) _ _ _
 rw [wpC_seq,wpC_seq,kD]
 refine kC (v:=.bool b) (by simp [RK.val?,ev,updo,upd,a0]) ?_
 refine kE ?_
 cases b with
 | true =>
   rw [kI rfl,wpC_seq,kD]
   refine kC (v:=.agg [.int .i64 1,.slice none 0 0,.bool false,.slice none 0 0,.slice none 0 0].toArray) (by simp [RK.val?,ev,zW,tzero,splice,Value.cells]) ?_
   exact kEL (by simp [updo,upd]) hb2 (by simp [updo,upd]) (RepT.num 1 false) hm1.nil (Nat.le_refl _)
 | false =>
   rw [kG rfl,wpC_skip]
   simp only [kF]
   rw [wpC_seq,kD]
   refine kC (v:=.agg [.int .i64 0,.slice none 0 0,.bool false,.slice none 0 0,.slice none 0 0].toArray) (by simp [RK.val?,ev,zW,tzero]) ?_
   exact kEL (by simp [updo,upd]) hb2 (by simp [updo,upd]) (RepT.num 0 false) hm1.nil (Nat.le_refl _)
def TK.okB (F:Nat→Nat) (has:Nat→Bool):TK→Bool
 | .num _=>true
 | .str=>true
 | .boo f=>f==F xH&&has xH
 | .txt f=>f==F xI&&has xI
 | .oct f=>f==F j6&&has j6
theorem TK.kH7 {has:Nat→Bool} (hm:P.follows .mixedOrders=true) (L:LibI P F has) {k:TK} (h:k.okB F has=true):k.Ok P:=by
 cases k with
 | num c=>trivial
 | str=>trivial
 | boo f=>simp only [TK.okB,Bool.and_eq_true,beq_iff_eq] at h;rw [h.1];exact kKC hm (L.xH h.2)
 | txt f=>simp only [TK.okB,Bool.and_eq_true,beq_iff_eq] at h;rw [h.1];exact kJS hm (L.xI h.2)
 | oct f=>simp only [TK.okB,Bool.and_eq_true,beq_iff_eq] at h;rw [h.1];exact kGS hm (L.j6 h.2)
def Tl.cells:Tl→Nat
 | .nil=>0
 | .fld _ rest=>1+rest.cells
 | .lst _ _ _ rest=>1+rest.cells
 | .uid rest=>16+rest.cells
 | .sub _ n _ rest=>n+rest.cells
 | .tags ..=>1
def Tl.okB (F:Nat→Nat) (has:Nat→Bool):Tl→Bool
 | .nil=>true
 | .fld k rest=>k.okB F has&&rest.okB F has
 | .lst k _ body rest=>(match k with|.tell _=>decide (0<body.cells)&&decide (body.len≤1000)|_=>true)&&body.okB F has&&rest.okB F has
 | .uid rest=>rest.okB F has
 | .sub _ n body rest=>decide (0<body.cells)&&decide (body.len≤1000)&&decide (body.cells=n)&&body.okB F has&&rest.okB F has
 | .tags _ b c=>b==F kEC&&c==F uP&&has kEC&&has uP
def Tl.subs:Tl→List (FuncId×Tl)
 | .nil=>[]
 | .fld _ rest=>rest.subs
 | .lst k _ body rest=>(match k with|.tell f=>[(f,body)]|_=>[])++(body.subs++rest.subs)
 | .uid rest=>rest.subs
 | .sub f _ body rest=>(f,body)::(body.subs++rest.subs)
 | .tags ..=>[]
def Tl.cbs:Tl→List FuncId
 | .nil=>[]
 | .fld _ rest=>rest.cbs
 | .lst _ _ body rest=>body.cbs++rest.cbs
 | .uid rest=>rest.cbs
 | .sub _ _ body rest=>body.cbs++rest.cbs
 | .tags a _ _=>[a]
def uZ (P:Program):List (FuncId×Tl)→Prop
 | []=>True
 | p::l=>kH P p.1=some (p.2.code 0)∧uZ P l
def kEZ (P:Program):List FuncId→Prop
 | []=>True
 | a::l=>(kH P a=some kIL∧wS P a=true)∧kEZ P l
theorem uZ.append {l l':List (FuncId×Tl)} (h:uZ P (l++l')):uZ P l∧uZ P l':=by
 induction l with
 | nil=>exact ⟨trivial,h⟩
 | cons p l ih=>exact ⟨⟨h.1,(ih h.2).1⟩,(ih h.2).2⟩
theorem kEZ.append {l l':List FuncId} (h:kEZ P (l++l')):kEZ P l∧kEZ P l':=by
 induction l with
 | nil=>exact ⟨trivial,h⟩
 | cons p l ih=>exact ⟨⟨h.1,(ih h.2).1⟩,(ih h.2).2⟩
theorem Tl.kIV {has:Nat→Bool} :∀(tl:Tl) (O:List Nat) (w:World) (gs:List GV) (css:List (List Value)),tl.okB F has=true→tl.ty gs→RepL O w gs css→css.flatten.length=tl.cells:=by
 intro tl
 induction tl with
 | nil=>intro O w gs css _ hT hr;simp only [Tl.ty] at hT;subst hT;cases hr;rfl
 | fld k rest ih =>
   intro O w gs css h hT hr
   simp only [Tl.okB,Bool.and_eq_true] at h
   obtain ⟨g,l,rfl,hg,hT⟩:=hT
   cases hr with
   | cons h1 h2=>simp only [List.flatten_cons,List.length_append,Tl.cells,TK.one hg h1,ih _ _ _ _ h.2 hT h2]
 | lst k esz body rest _ ih =>
   intro O w gs css h hT hr
   simp only [Tl.okB,Bool.and_eq_true] at h
   obtain ⟨isnil,sz,x,l,rfl,-,-,-,hT⟩:=hT
   cases hr with
   | @cons _ _ cs css h1 h2 =>
     have:cs.length=1:=by cases h1<;>rfl
     simp only [List.flatten_cons,List.length_append,Tl.cells,this,ih _ _ _ _ h.2 hT h2]
 | uid rest ih =>
   intro O w gs css h hT hr
   obtain ⟨x,l,rfl,hx,hT⟩:=hT
   cases hr with
   | @cons _ _ cs css h1 h2 =>
     have:cs.length=16:=by cases h1;rw [kY,hx]
     simp only [List.flatten_cons,List.length_append,Tl.cells,this,ih _ _ _ _ h hT h2]
 | sub f n body rest ihb ih =>
   intro O w gs css h hT hr
   simp only [Tl.okB,Bool.and_eq_true,decide_eq_true_eq] at h
   obtain ⟨x,l,rfl,hx,hT,-⟩:=hT
   cases hr with
   | @cons _ _ cs css h1 h2 =>
     have:cs.length=n:=by cases h1 with|rcd h1=>rw [←h.1.1.2];exact ihb _ _ _ _ h.1.2 hx h1
     simp only [List.flatten_cons,List.length_append,Tl.cells,this,ih _ _ _ _ h.2 hT h2]
 | tags a b c =>
   intro O w gs css h hT hr
   obtain ⟨m,rfl,-⟩:=hT
   cases hr with
   | @cons _ _ cs css h1 h2 =>
     cases h2
     have:cs.length=1:=by cases h1<;>rfl
     simp [this,Tl.cells]
theorem Tl.tellS {has:Nat→Bool} (hm:P.follows .mixedOrders=true) {tl:Tl} {f:FuncId} (hb:tl.okB F has=true) (hO:tl.Ok P) (hpos:0<tl.cells) (hlen:tl.len≤1000) (h:kH P f=some (tl.code 0)):kPJ P f tl.ty:=by
 intro O w B base gs css hT hr hc
 have hl:=Tl.kIV tl O w gs css hb hT hr
 have hcell :∃v,css.flatten[0]?=some v:=⟨css.flatten[0],List.getElem?_eq_getElem (by omega)⟩
 obtain ⟨v,hv⟩:=hcell
 have:=hc.2 0 v hv
 have hlt:=World.block_lt_of_cell? w _ this
 exact Tl.call hm h hO hlen O w B base gs css hT hr hlt hc
theorem Tl.kH7 {has:Nat→Bool} (hm:P.follows .mixedOrders=true) (L:LibI P F has) :∀tl:Tl,tl.okB F has=true→uZ P tl.subs→kEZ P tl.cbs→tl.Ok P:=by
 intro tl
 induction tl with
 | nil=>intro _ _ _;trivial
 | fld k rest ih =>
   intro h hs hc
   simp only [Tl.okB,Bool.and_eq_true] at h
   exact ⟨TK.kH7 hm L h.1,ih h.2 hs hc⟩
 | lst k esz body rest ihb ih =>
   intro h hs hc
   simp only [Tl.okB,Bool.and_eq_true] at h
   obtain ⟨s1,s2⟩:=uZ.append hs
   obtain ⟨s3,s4⟩:=uZ.append s2
   obtain ⟨c1,c2⟩:=kEZ.append hc
   refine ⟨?_,ih h.2 s4 c2⟩
   cases k with
   | num c=>trivial
   | str=>trivial
   | tell f =>
     simp only [Bool.and_eq_true,decide_eq_true_eq] at h
     exact Tl.tellS hm h.1.2 (ihb h.1.2 s3 c1) h.1.1.1 h.1.1.2 s1.1
 | uid rest ih=>intro h hs hc;exact ih h hs hc
 | sub f n body rest ihb ih =>
   intro h hs hc
   simp only [Tl.okB,Bool.and_eq_true,decide_eq_true_eq] at h
   obtain ⟨s3,s4⟩:=uZ.append hs.2
   obtain ⟨c1,c2⟩:=kEZ.append hc
   exact ⟨Tl.tellS hm h.1.2 (ihb h.1.2 s3 c1) h.1.1.1.1 h.1.1.1.2 hs.1,ih h.2 s4 c2,fun O w gs css hT hr=>by rw [←h.1.1.2];exact Tl.kIV body O w gs css h.1.2 hT hr⟩
 | tags a b c =>
   intro h _ hc
   simp only [Tl.okB,Bool.and_eq_true,beq_iff_eq] at h
   obtain ⟨⟨⟨rfl,rfl⟩,h3⟩,h4⟩:=h
   exact ⟨hm,hc.1.1,hc.1.2,fun hcb hb _ _ _ hce hM h1 h2 h5 h6 h7 h8 h9=>kL1 hm (L.kEC h3) (L.sort h3) hcb hb hce hM h1 h2 h5 h6 h7 h8 h9,fun hp hs hl=>kIK hm (L.uP h4) hp hs hl⟩
end
section
variable {P:Program}
attribute [local simp] gOk updo upd ev RK.val? kL kM Addr.kK qE Value.cells undef
theorem retT {σ:Sl} {w:World} {b:Nat} {cs:List Value} {r:Bool} {R:Ending→World→Prop} (h4:σ 4=.pointer (some ⟨b,0,none⟩)) (h5:σ 5=.bool r) (hb:Blk w b cs) (hl:cs.length=5) (h:R (.returned (.tuple #[.agg cs.toArray,.bool r])) w) :
  wpC P .ret (postC [.cells 4 5,.tmp 5] R) σ w:=by
 simp only [wpC,postC,rvals,List.mapM_cons,List.mapM_nil,RV.val,h4,h5,kJ hb.cells hl,Option.bind_eq_bind,Option.map_some,Option.bind_some,Option.pure_def,tup]
 exact h
def DoorR (w:World) (t:TR):Ending→World→Prop:=fun e w' =>∃cs,e=.returned (.tuple #[.agg cs.toArray,.bool true])∧RepT (fun b=>w.heap.size≤b) w' t cs∧Mod [] w w'
end
def kB6:IC×List RV×Nat :=
 (.seq (.blk [⟨some 4,.mv (.const (.int .i64 0)),none⟩])
 (.seq (.seq (.blk [⟨some 5,.mv (.tmp 0),none⟩])
  (.block 0 (.seq (.blk [⟨some 7,.bin .eql (.tmp 5) (.const (.int .i64 0)),none⟩,⟨some 6,.mv (.tmp 7),none⟩])
   (.cond (.tmp 6) (.seq (.blk [⟨some 8,.mv (.tmp 1),none⟩,⟨some 9,.bin .and (.tmp 8) (.const (.int .i64 1)),none⟩,⟨some 4,.mv (.tmp 9),none⟩]) .ret)
    (.seq (.blk [⟨some 11,.bin .eql (.tmp 5) (.const (.int .i64 1)),none⟩,⟨some 10,.mv (.tmp 11),none⟩])
    (.cond (.tmp 10) (.seq (.blk [⟨some 12,.mv (.tmp 1),none⟩,⟨some 13,.conv .i8 (.tmp 12),none⟩,⟨some 14,.conv .i64 (.tmp 13),none⟩,⟨some 4,.mv (.tmp 14),none⟩]) .ret)
     (.seq (.blk [⟨some 16,.bin .eql (.tmp 5) (.const (.int .i64 2)),none⟩,⟨some 15,.mv (.tmp 16),none⟩])
     (.cond (.tmp 15) (.seq (.blk [⟨some 17,.mv (.tmp 1),none⟩,⟨some 18,.conv .i16 (.tmp 17),none⟩,⟨some 19,.conv .i64 (.tmp 18),none⟩,⟨some 4,.mv (.tmp 19),none⟩]) .ret)
      (.seq (.blk [⟨some 21,.bin .eql (.tmp 5) (.const (.int .i64 3)),none⟩,⟨some 20,.mv (.tmp 21),none⟩])
      (.cond (.tmp 20) (.seq (.blk [⟨some 22,.mv (.tmp 1),none⟩,⟨some 23,.conv .i32 (.tmp 22),none⟩,⟨some 24,.conv .i64 (.tmp 23),none⟩,⟨some 4,.mv (.tmp 24),none⟩]) .ret)
       (.seq (.blk [⟨some 26,.bin .eql (.tmp 5) (.const (.int .i64 5)),none⟩,⟨some 25,.mv (.tmp 26),none⟩])
       (.cond (.tmp 25) (.seq (.blk [⟨some 27,.mv (.tmp 1),none⟩,⟨some 28,.conv .u16 (.tmp 27),none⟩,⟨some 29,.conv .i64 (.tmp 28),none⟩,⟨some 4,.mv (.tmp 29),none⟩]) .ret)
        .skip))))))))))))
 (.seq (.blk [⟨some 30,.mv (.tmp 1),none⟩,⟨some 4,.mv (.tmp 30),none⟩]) .ret)),[.tmp 4],31)
def yL (k n:Int):Int :=
 if k=0 then n%2 else if k=1 then IntKind.i8.wrap n else if k=2 then IntKind.i16.wrap n else if k=3 then IntKind.i32.wrap n else if k=5 then n%65536 else n
section
variable {P:Program} {F:Nat→Nat}
attribute [local simp] gOk updo upd ev RK.val? kL kM Addr.kK qE Value.cells undef
theorem kIW (n:Int):IntKind.i64.wrap (IntKind.i8.wrap n)=IntKind.i8.wrap n:=by
 simp only [IntKind.wrap,IntKind.bits,IntKind.signed];simp;repeat' split
 all_goals omega
theorem kFV (n:Int):IntKind.i64.wrap (IntKind.i16.wrap n)=IntKind.i16.wrap n:=by
 simp only [IntKind.wrap,IntKind.bits,IntKind.signed];simp;repeat' split
 all_goals omega
theorem kFW (n:Int):IntKind.i64.wrap (IntKind.i32.wrap n)=IntKind.i32.wrap n:=by
 simp only [IntKind.wrap,IntKind.bits,IntKind.signed];simp;repeat' split
 all_goals omega
theorem kL9 (n:Int):IntKind.i64.wrap (IntKind.u16.wrap n)=n%65536:=by
 simp only [IntKind.wrap,IntKind.bits,IntKind.signed];simp;repeat' split
 all_goals omega
theorem kE0 (hm:P.follows .mixedOrders=true) {f:FuncId} (h:kH P f=some kB6) {w:World} {k n:Int}:Calls P f [.int .i64 k,.int .i64 n].toArray w fun e w'=>e=.returned (.int .i64 (yL k n))∧w'=w:=by
 unfold kB6 at h
 refine kT h hm (by simp) ?_
 clear h
 rw [wpC_seq,kD]
 refine go1 (v:=.int .i64 0) rfl (by simp) (kP ?_)
 simp only [kF]
 rw [wpC_seq,wpC_seq,kD]
 refine go1 (v:=.int .i64 k) rfl (by simp) (kP ?_)
 simp only [kF]
 rw [wpC_block,wpC_seq,kD]
 refine go1 (v:=.bool (k==0)) rfl (by simp) ?_
 refine go1 (v:=.bool (k==0)) rfl (by simp) (kP ?_)
 simp only [kF]
 by_cases h0:k=0
 ·rw [kI (by simp [h0]),wpC_seq,kD]
  refine go1 (v:=.int .i64 n) rfl (by simp) ?_
  refine go1 (v:=.int .i64 (n%2)) rfl (by simp only [RK.val?,ev,updo,upd,if_true,kL,decide_true,Bool.or_true,kK0]) ?_
  refine go1 (v:=.int .i64 (n%2)) rfl (by simp) (kP ?_)
  simp only [kF]
  repeat first|refine zP ?_|refine j3 ?_
  exact ret1 (v:=.int .i64 (n%2)) (by simp) ⟨by simp [yL,h0],rfl⟩
 rw [kG (by simp [h0]),wpC_seq,kD]
 refine go1 (v:=.bool (k==1)) rfl (by simp) ?_
 refine go1 (v:=.bool (k==1)) rfl (by simp) (kP ?_)
 simp only [kF]
 by_cases h1:k=1
 ·rw [kI (by simp [h1]),wpC_seq,kD]
  refine go1 (v:=.int .i64 n) rfl (by simp) ?_
  refine go1 (v:=.int .i8 (IntKind.i8.wrap n)) rfl (by simp) ?_
  refine go1 (v:=.int .i64 (IntKind.i8.wrap n)) rfl (by simp [kIW]) ?_
  refine go1 (v:=.int .i64 (IntKind.i8.wrap n)) rfl (by simp) (kP ?_)
  simp only [kF]
  repeat first|refine zP ?_|refine j3 ?_
  exact ret1 (v:=.int .i64 (IntKind.i8.wrap n)) (by simp) ⟨by simp [yL,h1],rfl⟩
 rw [kG (by simp [h1]),wpC_seq,kD]
 refine go1 (v:=.bool (k==2)) rfl (by simp) ?_
 refine go1 (v:=.bool (k==2)) rfl (by simp) (kP ?_)
 simp only [kF]
 by_cases h2:k=2
 ·rw [kI (by simp [h2]),wpC_seq,kD]
  refine go1 (v:=.int .i64 n) rfl (by simp) ?_
  refine go1 (v:=.int .i16 (IntKind.i16.wrap n)) rfl (by simp) ?_
  refine go1 (v:=.int .i64 (IntKind.i16.wrap n)) rfl (by simp [kFV]) ?_
  refine go1 (v:=.int .i64 (IntKind.i16.wrap n)) rfl (by simp) (kP ?_)
  simp only [kF]
  repeat first|refine zP ?_|refine j3 ?_
  exact ret1 (v:=.int .i64 (IntKind.i16.wrap n)) (by simp) ⟨by simp [yL,h2],rfl⟩
 rw [kG (by simp [h2]),wpC_seq,kD]
 refine go1 (v:=.bool (k==3)) rfl (by simp) ?_
 refine go1 (v:=.bool (k==3)) rfl (by simp) (kP ?_)
 simp only [kF]
 by_cases h3:k=3
 ·rw [kI (by simp [h3]),wpC_seq,kD]
  refine go1 (v:=.int .i64 n) rfl (by simp) ?_
  refine go1 (v:=.int .i32 (IntKind.i32.wrap n)) rfl (by simp) ?_
  refine go1 (v:=.int .i64 (IntKind.i32.wrap n)) rfl (by simp [kFW]) ?_
  refine go1 (v:=.int .i64 (IntKind.i32.wrap n)) rfl (by simp) (kP ?_)
  simp only [kF]
  repeat first|refine zP ?_|refine j3 ?_
  exact ret1 (v:=.int .i64 (IntKind.i32.wrap n)) (by simp) ⟨by simp [yL,h3],rfl⟩
 rw [kG (by simp [h3]),wpC_seq,kD]
 refine go1 (v:=.bool (k==5)) rfl (by simp) ?_
 refine go1 (v:=.bool (k==5)) rfl (by simp) (kP ?_)
 simp only [kF]
 by_cases h5:k=5
 ·rw [kI (by simp [h5]),wpC_seq,kD]
  refine go1 (v:=.int .i64 n) rfl (by simp) ?_
  refine go1 (v:=.int .u16 (IntKind.u16.wrap n)) rfl (by simp) ?_
  refine go1 (v:=.int .i64 (n%65536)) rfl (by simp [kL9]) ?_
  refine go1 (v:=.int .i64 (n%65536)) rfl (by simp) (kP ?_)
  simp only [kF]
  repeat first|refine zP ?_|refine j3 ?_
  exact ret1 (v:=.int .i64 (n%65536)) (by simp) ⟨by simp [yL,h5],rfl⟩
 rw [kG (by simp [h5]),wpC_skip]
 simp only [kF,kR]
 rw [wpC_seq,kD]
 refine go1 (v:=.int .i64 n) rfl (by simp) ?_
 refine go1 (v:=.int .i64 n) rfl (by simp) (kP ?_)
 simp only [kF]
 exact ret1 (v:=.int .i64 n) (by simp) ⟨by simp [yL,h0,h1,h2,h3,h5],rfl⟩
end
end Go.Msk
namespace Go.Msk
set_option maxRecDepth 100000
def ir_sTold_1 (F:Nat→Nat):IC:=(.blk [⟨some 33,.fad (.tmp 12) 4,none⟩,⟨some 34,.ld (.tmp 33),none⟩,⟨some 35,.bin .lss (.tmp 34) (.const (.int .i64 0)),none⟩,
 ⟨some 36,.mv (.tmp 35),none⟩,⟨some 37,.ldn (.tmp 12) 8,some (36,true)⟩,⟨some 38,.mv (.tmp 1),some (36,true)⟩,⟨some 39,.call (F sHas) [.tmp 37,.tmp 38],some (36,true)⟩,
 ⟨some 40,.pick (.tmp 36) (.tmp 39) (.const (.bool false)),none⟩,⟨some 41,.mv (.tmp 40),none⟩,⟨some 42,.fad (.tmp 12) 4,some (41,false)⟩,⟨some 43,.ld (.tmp 42),some (41,false)⟩,
 ⟨some 44,.bin .geq (.tmp 43) (.const (.int .i64 0)),some (41,false)⟩,⟨some 45,.mv (.tmp 44),some (41,false)⟩,⟨some 46,.mv (.tmp 2),some (45,true)⟩,
 ⟨some 47,.pick (.tmp 45) (.tmp 46) (.const (.bool false)),some (41,false)⟩,⟨some 48,.mv (.tmp 47),some (41,false)⟩,⟨some 49,.ldn (.tmp 12) 8,some (48,true)⟩,
 ⟨some 50,.ldn (.tmp 13) 5,some (48,true)⟩,⟨some 51,.call (F uR) [.tmp 49,.tmp 50],some (48,true)⟩,⟨some 52,.lnot (.tmp 51),some (48,true)⟩,
 ⟨some 53,.pick (.tmp 48) (.tmp 52) (.const (.bool false)),some (41,false)⟩,⟨some 54,.pick (.tmp 41) (.const (.bool true)) (.tmp 53),none⟩])
def ir_sTold_2 (F:Nat→Nat):IC:=(.seq (.drw [⟨⟨some 55,.ldn (.tmp 12) 8,none⟩,false,[]⟩,⟨⟨some 56,.mv (.tmp 1),none⟩,false,[]⟩,⟨⟨some 57,.mv (.tmp 2),none⟩,false,[]⟩,
 ⟨⟨some 58,.ldn (.tmp 13) 5,none⟩,false,[]⟩,⟨⟨some 59,.fad (.tmp 9) 3,none⟩,false,[]⟩,⟨⟨some 60,.ld (.tmp 59),none⟩,false,[]⟩,⟨⟨some 61,.mv (.tmp 11),none⟩,false,[]⟩,
 ⟨⟨some 62,.iad (.tmp 60) (.tmp 61) 5,none⟩,false,[]⟩,⟨⟨some 63,.ldn (.tmp 62) 5,none⟩,false,[]⟩,⟨⟨some 64,.call (F kFF) [.tmp 55,.tmp 56,.tmp 57,.tmp 58,.tmp 63],none⟩,true,[]⟩,
 ⟨⟨some 65,.lnot (.tmp 64),none⟩,false,[9]⟩] []) (.cond (.tmp 65) (.seq (.blk [⟨some 10,.mv (.const (.bool false)),none⟩]) (.ret)) (.skip)))
def ir_sTold_3 (F:Nat→Nat):IC:=(.drw [⟨⟨some 66,.ldn (.tmp 12) 8,none⟩,false,[]⟩,
 ⟨⟨some 67,.bslice 1 [.int .i64 0,.int .i64 0,.int .i64 0,.int .i64 0,.int .i64 0,.int .i64 0,.int .i64 0,.slice none 0 0] [(0,8,.tmp 66)],none⟩,true,[]⟩,
 ⟨⟨some 68,.fad (.tmp 9) 3,none⟩,false,[]⟩,⟨⟨some 69,.ld (.tmp 68),none⟩,false,[]⟩,⟨⟨some 70,.mv (.tmp 11),none⟩,false,[]⟩,⟨⟨some 71,.iad (.tmp 69) (.tmp 70) 5,none⟩,false,[]⟩,
 ⟨⟨some 72,.ldn (.tmp 71) 5,none⟩,false,[]⟩,⟨⟨some 73,.bslice 1 [.int .i64 0,.slice none 0 0,.bool false,.slice none 0 0,.slice none 0 0] [(0,5,.tmp 72)],none⟩,true,[]⟩,
 ⟨⟨some 74,.build [.int .i64 0,.slice none 0 0,.bool false,.slice none 0 0,.slice none 0 0] [(3,1,.tmp 73)],none⟩,false,[7]⟩,
 ⟨⟨some 75,.call (F kFE) [.tmp 67,.tmp 74],none⟩,true,[1,7]⟩,⟨⟨some 76,.lnot (.tmp 75),none⟩,false,[1,7,9]⟩] [])
def ir_sTold_4 (F:Nat→Nat):IC:=(.seq (.blk [⟨some 27,.mv (.tmp 25),none⟩,⟨some 28,.iad (.tmp 23) (.tmp 25) 8,none⟩,⟨some 29,.ldn (.tmp 28) 8,none⟩,
 ⟨some 12,.alloc [.int .i64 0,.int .i64 0,.int .i64 0,.int .i64 0,.int .i64 0,.int .i64 0,.int .i64 0,.slice none 0 0],none⟩,⟨some 11,.mv (.tmp 27),none⟩,
 ⟨none,.st (.tmp 12) 8 (.tmp 29),none⟩]) (.seq (.blk [⟨some 30,.ldn (.tmp 8) 5,none⟩,⟨some 31,.mv (.tmp 11),none⟩,⟨some 32,.call (F sAt) [.tmp 30,.tmp 31],none⟩,
 ⟨some 13,.alloc [.int .i64 0,.slice none 0 0,.bool false,.slice none 0 0,.slice none 0 0],none⟩,⟨none,.st (.tmp 13) 5 (.tmp 32),none⟩]) (.seq (.seq (ir_sTold_1 F) (.cond (.tmp 54)
 (.seq (ir_sTold_2 F) (.exit 1)) (.skip))) (.seq (ir_sTold_3 F) (.cond (.tmp 76) (.seq (.blk [⟨some 10,.mv (.const (.bool false)),none⟩]) (.ret)) (.skip))))))
def ir_sTold_5 (F:Nat→Nat):IC:=(.drw [⟨⟨some 97,.fad (.tmp 9) 4,none⟩,false,[]⟩,⟨⟨some 98,.ld (.tmp 97),none⟩,false,[]⟩,⟨⟨some 99,.mv (.tmp 15),none⟩,false,[]⟩,
 ⟨⟨some 100,.iad (.tmp 98) (.tmp 99) 2,none⟩,false,[]⟩,⟨⟨some 101,.fad (.tmp 100) 0,none⟩,false,[]⟩,⟨⟨some 102,.ld (.tmp 101),none⟩,false,[]⟩,
 ⟨⟨some 103,.fad (.tmp 16) 0,none⟩,false,[]⟩,⟨⟨some 104,.ld (.tmp 103),none⟩,false,[]⟩,⟨⟨some 105,.bin .neq (.tmp 102) (.tmp 104),none⟩,false,[]⟩,
 ⟨⟨some 106,.mv (.tmp 105),none⟩,false,[]⟩,⟨⟨some 107,.fad (.tmp 9) 4,some (106,false)⟩,false,[]⟩,⟨⟨some 108,.ld (.tmp 107),some (106,false)⟩,false,[]⟩,
 ⟨⟨some 109,.mv (.tmp 15),some (106,false)⟩,false,[]⟩,⟨⟨some 110,.iad (.tmp 108) (.tmp 109) 2,some (106,false)⟩,false,[]⟩,⟨⟨some 111,.fad (.tmp 110) 1,some (106,false)⟩,false,[]⟩,
 ⟨⟨some 112,.ld (.tmp 111),some (106,false)⟩,false,[]⟩,⟨⟨some 113,.fad (.tmp 16) 1,some (106,false)⟩,false,[]⟩,⟨⟨some 114,.ld (.tmp 113),some (106,false)⟩,false,[]⟩,
 ⟨⟨some 115,.call (F yR) [.tmp 114],some (106,false)⟩,true,[]⟩,⟨⟨some 116,.call (F vW) [.tmp 112,.tmp 115],some (106,false)⟩,true,[18]⟩,
 ⟨⟨some 117,.lnot (.tmp 116),some (106,false)⟩,false,[18,19]⟩,⟨⟨some 118,.pick (.tmp 106) (.const (.bool true)) (.tmp 117),none⟩,false,[18,19]⟩] [])
def ir_sTold_6 (F:Nat→Nat):IC:=(.seq (.blk [⟨some 90,.mv (.tmp 14),none⟩,⟨some 91,.len (.tmp 90),none⟩,⟨some 92,.mv (.const (.int .i64 0)),none⟩])
 (.block 2 (.loop (.seq (.blk [⟨some 93,.bin .lss (.tmp 92) (.tmp 91),none⟩]) (.seq (.cond (.tmp 93) (.skip) (.exit 2)) (.seq (.block 3 (.seq (.blk [⟨some 94,.mv (.tmp 92),none⟩,
 ⟨some 95,.iad (.tmp 90) (.tmp 92) 2,none⟩,⟨some 96,.ldn (.tmp 95) 2,none⟩,⟨some 16,.alloc [.int .u32 0,.slice none 0 0],none⟩,⟨some 15,.mv (.tmp 94),none⟩,
 ⟨none,.st (.tmp 16) 2 (.tmp 96),none⟩]) (.seq (ir_sTold_5 F) (.cond (.tmp 118) (.seq (.blk [⟨some 10,.mv (.const (.bool false)),none⟩]) (.ret)) (.skip)))))
 (.blk [⟨some 119,.bin .add (.tmp 92) (.const (.int .i64 1)),none⟩,⟨some 92,.mv (.tmp 119),none⟩])))))))
def ir_sTold (F:Nat→Nat):IC×List RV×Nat:=(.seq (.blk [⟨some 8,.box (.tmp 3),none⟩,⟨some 9,.box (.tmp 4),none⟩,⟨some 10,.mv (.const (.bool false)),none⟩])
 (.seq (.seq (.blk [⟨some 17,.fad (.tmp 9) 3,none⟩,⟨some 18,.ld (.tmp 17),none⟩,⟨some 19,.len (.tmp 18),none⟩,⟨some 20,.mv (.tmp 0),none⟩,⟨some 21,.len (.tmp 20),none⟩,
 ⟨some 22,.bin .neq (.tmp 19) (.tmp 21),none⟩]) (.cond (.tmp 22) (.seq (.blk [⟨some 10,.mv (.const (.bool false)),none⟩]) (.ret)) (.skip)))
 (.seq (.seq (.blk [⟨some 23,.mv (.tmp 0),none⟩,⟨some 24,.len (.tmp 23),none⟩,⟨some 25,.mv (.const (.int .i64 0)),none⟩])
 (.block 0 (.loop (.seq (.blk [⟨some 26,.bin .lss (.tmp 25) (.tmp 24),none⟩]) (.seq (.cond (.tmp 26) (.skip) (.exit 0)) (.seq (.block 1 (ir_sTold_4 F))
 (.blk [⟨some 77,.bin .add (.tmp 25) (.const (.int .i64 1)),none⟩,⟨some 25,.mv (.tmp 77),none⟩]))))))) (.seq (.blk [⟨some 78,.mv (.tmp 0),none⟩,⟨some 79,.fad (.tmp 8) 4,none⟩,
 ⟨some 80,.ld (.tmp 79),none⟩,⟨some 81,.call (F yA) [.tmp 78,.tmp 80],none⟩,⟨some 14,.mv (.tmp 81),none⟩]) (.seq (.seq (.blk [⟨some 82,.mv (.tmp 2),none⟩,
 ⟨some 83,.lnot (.tmp 82),none⟩]) (.cond (.tmp 83) (.blk [⟨some 14,.mv (.const (.slice none 0 0)),none⟩]) (.skip))) (.seq (.seq (.blk [⟨some 84,.fad (.tmp 9) 4,none⟩,
 ⟨some 85,.ld (.tmp 84),none⟩,⟨some 86,.len (.tmp 85),none⟩,⟨some 87,.mv (.tmp 14),none⟩,⟨some 88,.len (.tmp 87),none⟩,⟨some 89,.bin .neq (.tmp 86) (.tmp 88),none⟩])
 (.cond (.tmp 89) (.seq (.blk [⟨some 10,.mv (.const (.bool false)),none⟩]) (.ret)) (.skip))) (.seq (ir_sTold_6 F) (.seq (.blk [⟨some 10,.mv (.const (.bool true)),none⟩])
 (.ret)))))))),[.tmp 10],120)
def ir_stold__1 (F:Nat→Nat):IC:=(.blk [⟨some 30,.fad (.tmp 5) 0,none⟩,⟨some 31,.ld (.tmp 30),none⟩,⟨some 32,.bin .eql (.tmp 31) (.const (.int .i64 8)),none⟩,
 ⟨some 33,.mv (.tmp 32),none⟩,⟨some 34,.fad (.tmp 5) 0,some (33,false)⟩,⟨some 35,.ld (.tmp 34),some (33,false)⟩,
 ⟨some 36,.bin .eql (.tmp 35) (.const (.int .i64 10)),some (33,false)⟩,⟨some 37,.pick (.tmp 33) (.const (.bool true)) (.tmp 36),none⟩,⟨some 38,.mv (.tmp 37),none⟩,
 ⟨some 39,.mv (.tmp 12),some (38,false)⟩,⟨some 40,.pick (.tmp 38) (.const (.bool true)) (.tmp 39),none⟩,⟨some 41,.mv (.tmp 40),none⟩,⟨some 42,.fad (.tmp 9) 2,some (41,true)⟩,
 ⟨some 43,.ld (.tmp 42),some (41,true)⟩,⟨some 44,.mv (.tmp 11),some (41,true)⟩,⟨some 45,.beq true (.tmp 43) (.tmp 44),some (41,true)⟩,
 ⟨some 46,.pick (.tmp 41) (.tmp 45) (.const (.bool false)),none⟩])
def ir_stold__2 (F:Nat→Nat):IC:=(.drw [⟨⟨some 101,.ldn (.tmp 15) 8,none⟩,false,[]⟩,⟨⟨some 102,.mv (.tmp 1),none⟩,false,[]⟩,⟨⟨some 103,.mv (.tmp 2),none⟩,false,[]⟩,
 ⟨⟨some 104,.mv (.tmp 14),none⟩,false,[]⟩,⟨⟨some 105,.mv (.tmp 16),none⟩,false,[]⟩,⟨⟨some 106,.iad (.tmp 104) (.tmp 105) 5,none⟩,false,[]⟩,
 ⟨⟨some 107,.ldn (.tmp 106) 5,none⟩,false,[]⟩,⟨⟨some 108,.fad (.tmp 9) 3,none⟩,false,[]⟩,⟨⟨some 109,.ld (.tmp 108),none⟩,false,[]⟩,⟨⟨some 110,.mv (.tmp 16),none⟩,false,[]⟩,
 ⟨⟨some 111,.iad (.tmp 109) (.tmp 110) 5,none⟩,false,[]⟩,⟨⟨some 112,.ldn (.tmp 111) 5,none⟩,false,[]⟩,
 ⟨⟨some 113,.call (F kFF) [.tmp 101,.tmp 102,.tmp 103,.tmp 107,.tmp 112],none⟩,true,[]⟩,⟨⟨some 114,.lnot (.tmp 113),none⟩,false,[12]⟩] [])
def ir_stold__3 (F:Nat→Nat):IC:=(.seq (.blk [⟨some 96,.mv (.tmp 14),none⟩,⟨some 97,.len (.tmp 96),none⟩,⟨some 98,.mv (.const (.int .i64 0)),none⟩])
 (.block 1 (.loop (.seq (.blk [⟨some 99,.bin .lss (.tmp 98) (.tmp 97),none⟩]) (.seq (.cond (.tmp 99) (.skip) (.exit 1)) (.seq (.block 2 (.seq (.blk [⟨some 100,.mv (.tmp 98),none⟩,
 ⟨some 16,.mv (.tmp 100),none⟩]) (.seq (ir_stold__2 F) (.cond (.tmp 114) (.seq (.blk [⟨some 10,.mv (.const (.bool false)),none⟩]) (.ret)) (.skip)))))
 (.blk [⟨some 115,.bin .add (.tmp 98) (.const (.int .i64 1)),none⟩,⟨some 98,.mv (.tmp 115),none⟩])))))))
def ir_stold__4 (F:Nat→Nat):IC:=(.seq (.blk [⟨some 81,.fad (.tmp 8) 3,none⟩,⟨some 82,.ld (.tmp 81),none⟩,⟨some 83,.call (F uQ) [.tmp 82],none⟩,⟨some 14,.mv (.tmp 83),none⟩])
 (.seq (.seq (.blk [⟨some 84,.fad (.tmp 9) 3,none⟩,⟨some 85,.ld (.tmp 84),none⟩,⟨some 86,.len (.tmp 85),none⟩,⟨some 87,.mv (.tmp 14),none⟩,⟨some 88,.len (.tmp 87),none⟩,
 ⟨some 89,.bin .neq (.tmp 86) (.tmp 88),none⟩]) (.cond (.tmp 89) (.seq (.blk [⟨some 10,.mv (.const (.bool false)),none⟩]) (.ret)) (.skip)))
 (.seq (.blk [⟨some 90,.ldn (.tmp 5) 8,none⟩,⟨some 15,.alloc [.int .i64 0,.int .i64 0,.int .i64 0,.int .i64 0,.int .i64 0,.int .i64 0,.int .i64 0,.slice none 0 0],none⟩,
 ⟨none,.st (.tmp 15) 8 (.tmp 90),none⟩]) (.seq (.blk [⟨some 91,.fad (.tmp 5) 6,none⟩,⟨some 92,.ld (.tmp 91),none⟩,⟨some 93,.fad (.tmp 15) 0,none⟩,
 ⟨none,.st (.tmp 93) 1 (.tmp 92),none⟩,⟨some 94,.fad (.tmp 15) 3,none⟩,⟨none,.st (.tmp 94) 1 (.const (.int .i64 (-1))),none⟩,⟨some 95,.fad (.tmp 15) 4,none⟩,
 ⟨none,.st (.tmp 95) 1 (.const (.int .i64 (-1))),none⟩]) (.seq (ir_stold__3 F) (.seq (.blk [⟨some 10,.mv (.const (.bool true)),none⟩]) (.ret)))))))
def ir_stold__5 (F:Nat→Nat):IC:=(.seq (.blk [⟨some 60,.bin .eql (.tmp 49) (.const (.int .i64 7)),none⟩,⟨some 59,.mv (.tmp 60),none⟩]) (.cond (.tmp 59)
 (.seq (.blk [⟨some 61,.mkslice (.const (.int .i64 16)) (.const (.int .i64 16)) 1 [.int .u8 0],none⟩,⟨some 13,.mv (.tmp 61),none⟩]) (.seq (.blk [⟨some 62,.mv (.tmp 13),none⟩,
 ⟨some 63,.fad (.tmp 8) 1,none⟩,⟨some 64,.ld (.tmp 63),none⟩,⟨some 65,.copy (.tmp 62) (.tmp 64) 1,none⟩]) (.seq (.blk [⟨some 66,.fad (.tmp 9) 1,none⟩,⟨some 67,.ld (.tmp 66),none⟩,
 ⟨some 68,.mv (.tmp 13),none⟩,⟨some 69,.call (F vW) [.tmp 67,.tmp 68],none⟩,⟨some 10,.mv (.tmp 69),none⟩]) (.ret))))
 (.seq (.blk [⟨some 71,.bin .eql (.tmp 49) (.const (.int .i64 10)),none⟩,⟨some 70,.mv (.tmp 71),none⟩]) (.cond (.tmp 70) (.seq (.blk [⟨some 72,.fad (.tmp 5) 7,none⟩,
 ⟨some 73,.ld (.tmp 72),none⟩,⟨some 74,.mv (.tmp 1),none⟩,⟨some 75,.mv (.tmp 2),none⟩,⟨some 76,.ldn (.tmp 8) 5,none⟩,⟨some 77,.ldn (.tmp 9) 5,none⟩,
 ⟨some 78,.call (F kHV) [.tmp 73,.tmp 74,.tmp 75,.tmp 76,.tmp 77],none⟩,⟨some 10,.mv (.tmp 78),none⟩]) (.ret))
 (.seq (.blk [⟨some 80,.bin .eql (.tmp 49) (.const (.int .i64 11)),none⟩,⟨some 79,.mv (.tmp 80),none⟩]) (.cond (.tmp 79) (ir_stold__4 F) (.skip)))))))
def ir_stold__6 (F:Nat→Nat):IC:=(.seq (.blk [⟨some 48,.fad (.tmp 5) 0,none⟩,⟨some 49,.ld (.tmp 48),none⟩])
 (.block 0 (.seq (.seq (.blk [⟨some 51,.bin .eql (.tmp 49) (.const (.int .i64 8)),none⟩,⟨some 50,.mv (.tmp 51),none⟩]) (.cond (.tmp 50) (.skip)
 (.blk [⟨some 52,.bin .eql (.tmp 49) (.const (.int .i64 9)),none⟩,⟨some 50,.mv (.tmp 52),none⟩]))) (.cond (.tmp 50) (.seq (.drw [⟨⟨some 53,.fad (.tmp 9) 1,none⟩,false,[]⟩,
 ⟨⟨some 54,.ld (.tmp 53),none⟩,false,[]⟩,⟨⟨some 55,.fad (.tmp 8) 1,none⟩,false,[]⟩,⟨⟨some 56,.ld (.tmp 55),none⟩,false,[]⟩,⟨⟨some 57,.call (F yR) [.tmp 56],none⟩,true,[]⟩,
 ⟨⟨some 58,.call (F vW) [.tmp 54,.tmp 57],none⟩,true,[4]⟩,⟨⟨some 10,.mv (.tmp 58),none⟩,false,[4,5]⟩] []) (.ret)) (ir_stold__5 F)))))
def ir_stold_ (F:Nat→Nat):IC×List RV×Nat:=(.seq (.blk [⟨some 5,.box (.tmp 0),none⟩,⟨some 8,.box (.tmp 3),none⟩,⟨some 9,.box (.tmp 4),none⟩,
 ⟨some 10,.mv (.const (.bool false)),none⟩]) (.seq (.blk [⟨some 17,.ldn (.tmp 5) 8,none⟩,⟨some 18,.mv (.tmp 1),none⟩,⟨some 19,.ldn (.tmp 8) 5,none⟩,
 ⟨some 20,.call (F kJK) [.tmp 17,.tmp 18,.tmp 19],none⟩,⟨some 11,.mv (.tmp 20),none⟩]) (.seq (.blk [⟨some 21,.fad (.tmp 5) 3,none⟩,⟨some 22,.ld (.tmp 21),none⟩,
 ⟨some 23,.bin .geq (.tmp 22) (.const (.int .i64 0)),none⟩,⟨some 24,.mv (.tmp 23),none⟩,⟨some 25,.mv (.tmp 1),some (24,true)⟩,⟨some 26,.fad (.tmp 5) 3,some (24,true)⟩,
 ⟨some 27,.ld (.tmp 26),some (24,true)⟩,⟨some 28,.bin .geq (.tmp 25) (.tmp 27),some (24,true)⟩,⟨some 29,.pick (.tmp 24) (.tmp 28) (.const (.bool false)),none⟩,
 ⟨some 12,.mv (.tmp 29),none⟩]) (.seq (.seq (ir_stold__1 F) (.cond (.tmp 46) (.seq (.blk [⟨some 10,.mv (.const (.bool false)),none⟩]) (.ret)) (.skip)))
 (.seq (.seq (.blk [⟨some 47,.mv (.tmp 11),none⟩]) (.cond (.tmp 47) (.seq (.blk [⟨some 10,.mv (.const (.bool true)),none⟩]) (.ret)) (.skip))) (.seq (ir_stold__6 F)
 (.seq (.drw [⟨⟨some 116,.fad (.tmp 9) 0,none⟩,false,[]⟩,⟨⟨some 117,.ld (.tmp 116),none⟩,false,[]⟩,⟨⟨some 118,.fad (.tmp 5) 0,none⟩,false,[]⟩,
 ⟨⟨some 119,.ld (.tmp 118),none⟩,false,[]⟩,⟨⟨some 120,.fad (.tmp 8) 0,none⟩,false,[]⟩,⟨⟨some 121,.ld (.tmp 120),none⟩,false,[]⟩,
 ⟨⟨some 122,.call (F kBO) [.tmp 119,.tmp 121],none⟩,true,[]⟩,⟨⟨some 123,.bin .eql (.tmp 117) (.tmp 122),none⟩,false,[6]⟩,⟨⟨some 10,.mv (.tmp 123),none⟩,false,[6]⟩] [])
 (.ret))))))),[.tmp 10],124)
def ir_sUsual_1 (F:Nat→Nat):IC:=(.seq (.blk [⟨some 34,.fad (.tmp 7) 2,none⟩,⟨some 35,.ld (.tmp 34),none⟩,⟨some 36,.fad (.tmp 6) 3,none⟩,⟨some 37,.ld (.tmp 36),none⟩,
 ⟨some 38,.bin .geq (.tmp 37) (.const (.int .i64 0)),none⟩,⟨some 39,.beq true (.tmp 35) (.tmp 38),none⟩,⟨some 40,.mv (.tmp 39),none⟩,⟨some 41,.fad (.tmp 7) 1,some (40,false)⟩,
 ⟨some 42,.ld (.tmp 41),some (40,false)⟩,⟨some 43,.len (.tmp 42),some (40,false)⟩,⟨some 44,.bin .gtr (.tmp 43) (.const (.int .i64 0)),some (40,false)⟩,
 ⟨some 45,.pick (.tmp 40) (.const (.bool true)) (.tmp 44),none⟩]) (.cond (.tmp 45) (.seq (.blk [⟨some 4,.mv (.const (.bool false)),none⟩]) (.ret)) (.skip)))
def ir_sUsual_2 (F:Nat→Nat):IC:=(.seq (.blk [⟨some 56,.fad (.tmp 7) 1,none⟩,⟨some 57,.ld (.tmp 56),none⟩,⟨some 58,.len (.tmp 57),none⟩,
 ⟨some 59,.bin .gtr (.tmp 58) (.const (.int .i64 0)),none⟩,⟨some 60,.mv (.tmp 59),none⟩,⟨some 61,.fad (.tmp 7) 3,some (60,false)⟩,⟨some 62,.ld (.tmp 61),some (60,false)⟩,
 ⟨some 63,.len (.tmp 62),some (60,false)⟩,⟨some 64,.bin .gtr (.tmp 63) (.const (.int .i64 0)),some (60,false)⟩,⟨some 65,.pick (.tmp 60) (.const (.bool true)) (.tmp 64),none⟩])
 (.cond (.tmp 65) (.seq (.blk [⟨some 4,.mv (.const (.bool false)),none⟩]) (.ret)) (.skip)))
def ir_sUsual_3 (F:Nat→Nat):IC:=(.blk [⟨some 68,.fad (.tmp 6) 3,none⟩,⟨some 69,.ld (.tmp 68),none⟩,⟨some 70,.bin .geq (.tmp 69) (.const (.int .i64 0)),none⟩,
 ⟨some 71,.mv (.tmp 70),none⟩,⟨some 72,.fad (.tmp 7) 2,some (71,true)⟩,⟨some 73,.ld (.tmp 72),some (71,true)⟩,⟨some 74,.lnot (.tmp 73),some (71,true)⟩,
 ⟨some 75,.pick (.tmp 71) (.tmp 74) (.const (.bool false)),none⟩,⟨some 76,.mv (.tmp 75),none⟩,⟨some 77,.fad (.tmp 6) 3,some (76,false)⟩,⟨some 78,.ld (.tmp 77),some (76,false)⟩,
 ⟨some 79,.bin .lss (.tmp 78) (.const (.int .i64 0)),some (76,false)⟩,⟨some 80,.mv (.tmp 79),some (76,false)⟩,⟨some 81,.fad (.tmp 6) 7,some (80,true)⟩,
 ⟨some 82,.ld (.tmp 81),some (80,true)⟩,⟨some 83,.ldn (.tmp 7) 5,some (80,true)⟩,⟨some 84,.call (F kFE) [.tmp 82,.tmp 83],some (80,true)⟩,⟨some 85,.lnot (.tmp 84),some (80,true)⟩,
 ⟨some 86,.pick (.tmp 80) (.tmp 85) (.const (.bool false)),some (76,false)⟩,⟨some 87,.pick (.tmp 76) (.const (.bool true)) (.tmp 86),none⟩])
def ir_sUsual_4 (F:Nat→Nat):IC:=(.seq (.blk [⟨some 67,.bin .eql (.tmp 23) (.const (.int .i64 10)),none⟩,⟨some 66,.mv (.tmp 67),none⟩]) (.cond (.tmp 66) (.seq (ir_sUsual_3 F)
 (.cond (.tmp 87) (.seq (.blk [⟨some 4,.mv (.const (.bool false)),none⟩]) (.ret)) (.skip))) (.seq (.drw [⟨⟨some 24,.fad (.tmp 7) 0,none⟩,false,[]⟩,
 ⟨⟨some 25,.ld (.tmp 24),none⟩,false,[]⟩,⟨⟨some 26,.fad (.tmp 6) 0,none⟩,false,[]⟩,⟨⟨some 27,.ld (.tmp 26),none⟩,false,[]⟩,⟨⟨some 28,.fad (.tmp 6) 5,none⟩,false,[]⟩,
 ⟨⟨some 29,.ld (.tmp 28),none⟩,false,[]⟩,⟨⟨some 30,.call (F kBO) [.tmp 27,.tmp 29],none⟩,true,[]⟩,⟨⟨some 31,.bin .neq (.tmp 25) (.tmp 30),none⟩,false,[6]⟩] []) (.cond (.tmp 31)
 (.seq (.blk [⟨some 4,.mv (.const (.bool false)),none⟩]) (.ret)) (.skip)))))
def ir_sUsual_5 (F:Nat→Nat):IC:=(.seq (.blk [⟨some 47,.bin .eql (.tmp 23) (.const (.int .i64 7)),none⟩,⟨some 46,.mv (.tmp 47),none⟩]) (.cond (.tmp 46)
 (.seq (.drw [⟨⟨some 48,.fad (.tmp 7) 1,none⟩,false,[]⟩,⟨⟨some 49,.ld (.tmp 48),none⟩,false,[]⟩,
 ⟨⟨some 50,.mkslice (.const (.int .i64 16)) (.const (.int .i64 16)) 1 [.int .u8 0],none⟩,true,[]⟩,⟨⟨some 51,.call (F vW) [.tmp 49,.tmp 50],none⟩,true,[2]⟩,
 ⟨⟨some 52,.lnot (.tmp 51),none⟩,false,[2,3]⟩] []) (.cond (.tmp 52) (.seq (.blk [⟨some 4,.mv (.const (.bool false)),none⟩]) (.ret)) (.skip)))
 (.seq (.seq (.blk [⟨some 54,.bin .eql (.tmp 23) (.const (.int .i64 9)),none⟩,⟨some 53,.mv (.tmp 54),none⟩]) (.cond (.tmp 53) (.skip)
 (.blk [⟨some 55,.bin .eql (.tmp 23) (.const (.int .i64 11)),none⟩,⟨some 53,.mv (.tmp 55),none⟩]))) (.cond (.tmp 53) (ir_sUsual_2 F) (ir_sUsual_4 F)))))
def ir_sUsual_6 (F:Nat→Nat):IC:=(.seq (.blk [⟨some 16,.mv (.tmp 14),none⟩,⟨some 17,.iad (.tmp 12) (.tmp 14) 8,none⟩,⟨some 18,.ldn (.tmp 17) 8,none⟩,
 ⟨some 6,.alloc [.int .i64 0,.int .i64 0,.int .i64 0,.int .i64 0,.int .i64 0,.int .i64 0,.int .i64 0,.slice none 0 0],none⟩,⟨some 5,.mv (.tmp 16),none⟩,
 ⟨none,.st (.tmp 6) 8 (.tmp 18),none⟩]) (.seq (.blk [⟨some 19,.ldn (.tmp 3) 5,none⟩,⟨some 20,.mv (.tmp 5),none⟩,⟨some 21,.call (F sAt) [.tmp 19,.tmp 20],none⟩,
 ⟨some 7,.alloc [.int .i64 0,.slice none 0 0,.bool false,.slice none 0 0,.slice none 0 0],none⟩,⟨none,.st (.tmp 7) 5 (.tmp 21),none⟩]) (.seq (.blk [⟨some 22,.fad (.tmp 6) 0,none⟩,
 ⟨some 23,.ld (.tmp 22),none⟩]) (.block 2 (.seq (.blk [⟨some 33,.bin .eql (.tmp 23) (.const (.int .i64 8)),none⟩,⟨some 32,.mv (.tmp 33),none⟩]) (.cond (.tmp 32) (ir_sUsual_1 F)
 (ir_sUsual_5 F)))))))
def ir_sUsual (F:Nat→Nat):IC×List RV×Nat:=(.seq (.blk [⟨some 3,.box (.tmp 1),none⟩,⟨some 4,.mv (.const (.bool false)),none⟩]) (.seq (.seq (.blk [⟨some 8,.fad (.tmp 3) 4,none⟩,
 ⟨some 9,.ld (.tmp 8),none⟩,⟨some 10,.len (.tmp 9),none⟩,⟨some 11,.bin .gtr (.tmp 10) (.const (.int .i64 0)),none⟩]) (.cond (.tmp 11)
 (.seq (.blk [⟨some 4,.mv (.const (.bool false)),none⟩]) (.ret)) (.skip))) (.seq (.seq (.blk [⟨some 12,.mv (.tmp 0),none⟩,⟨some 13,.len (.tmp 12),none⟩,
 ⟨some 14,.mv (.const (.int .i64 0)),none⟩]) (.block 0 (.loop (.seq (.blk [⟨some 15,.bin .lss (.tmp 14) (.tmp 13),none⟩]) (.seq (.cond (.tmp 15) (.skip) (.exit 0))
 (.seq (.block 1 (ir_sUsual_6 F)) (.blk [⟨some 88,.bin .add (.tmp 14) (.const (.int .i64 1)),none⟩,⟨some 14,.mv (.tmp 88),none⟩])))))))
 (.seq (.blk [⟨some 4,.mv (.const (.bool true)),none⟩]) (.ret)))),[.tmp 4],89)
end Go.Msk
namespace Go.Msk
open Go.RowKit
set_option maxRecDepth 100000
def valT (kind:Int) (part:TR→TR→Prop) (null may:Bool) (t g:TR):Prop :=
 ((kind=8∨kind=10∨may=true)→g.null=null) ∧
 (null=false→((kind=8∨kind=9)→g.s=kN t.s)∧(kind=7→g.s=vF t.s)∧(kind=10→part t g)∧(kind≠7→kind≠8→kind≠9→kind≠10→kind≠11→g.n=yL kind t.n))
mutual
/-- Does a field say what is so by default? -/
def FD.kAY:FD→TR→Prop
 | .mk kind _ _ null _ dfl _ sub,x =>
   (kind=8→x.null=decide (null≥0)∧x.s=[])∧(kind=7→x.s=List.replicate 16 0)∧((kind=9∨kind=11)→x.s=[]∧x.l=[]) ∧
   (kind=10→(null≥0→x.null=true)∧(null<0→x.u=[]∧kFX sub 0 x))∧(kind≠7→kind≠8→kind≠9→kind≠10→kind≠11→x.n=yL kind dfl)
def kFX:List FD→Nat→TR→Prop
 | [],_,_=>True
 | f::fs,i,x=>f.kAY (x.at i)∧kFX fs (i+1) x
end
def mayV (null ver:Int):Bool:=decide (null≥0)&&decide (ver≥null)
mutual
def FD.kAZ (ver:Int) (flex:Bool):FD→TR→TR→Prop
 | .mk kind frm to null tag dfl of sub,t,g =>
   valT kind (fun y h=>wI ver flex sub 0 y h.l∧h.u=(if flex then zT (kU sub y.u) else [])) (FD.jR (.mk kind frm to null tag dfl of sub) ver t) (mayV null ver) t g ∧
   (kind=11→FD.jR (.mk kind frm to null tag dfl of sub) ver t=false→of≠11∧g.l.length=(t.l.take 32767).length ∧
    ∀(i:Nat) (y h:TR),(t.l.take 32767)[i]?=some y→g.l[i]?=some h→valT of (fun y h=>wI ver flex sub 0 y h.l∧h.u=(if flex then zT (kU sub y.u) else [])) false false y h)
def wI (ver:Int) (flex:Bool):List FD→Nat→TR→List TR→Prop
 | [],_,_,gl=>gl=[]
 | f::fs,i,t,gl =>∃g r,gl=g::r∧(f.hasV ver=true→f.kAZ ver flex (t.at i) g)∧(f.hasV ver=false→f.kAY g)∧wI ver flex fs (i+1) t r
end
def partT (ver:Int) (flex:Bool) (sub:List FD) (y h:TR):Prop:=wI ver flex sub 0 y h.l∧h.u=(if flex then zT (kU sub y.u) else [])
def kG6 (w:World):Ending→World→Prop:=fun e w'=>e=.returned (.bool true)∧Mod [] w w'
section
variable {P:Program} {F:Nat→Nat}
attribute [local simp] gOk updo upd ev RK.val? kL kM Addr.kK qE Value.cells undef
theorem goSt1 {a x:Operand} {b o:Nat} {r:List RI} {σ:Sl} {w:World} {v:Value} {cs:List Value} {Q:Sl→World→Prop} (ha:ev σ a=.pointer (some ⟨b,o,none⟩)) (hx:ev σ x=v) (hv:v.cells=#[v]) (h1:v.oneCell'=true) (hb:Blk w b cs) (ho:o<cs.length)
  (h :∀w',Blk w' b (cs.set o v)→Mod [b] w w'→wpR P r σ w' Q):wpR P (⟨none,.st a 1 x,none⟩::r) σ w Q:=by
 subst hx
 refine kX ?_
 simp only [RK.run,ha,hv]
 refine ⟨rfl,yN hb ho h1,h _ ?_ (Mod.put (by simp))⟩
 have:=hb.put (o:=o) (vs:=[ev σ x]) (by simp;omega)
 have e:splice cs o [ev σ x]=cs.set o (ev σ x):=by
  unfold splice
  rw [List.set_eq_take_append_cons_drop,if_pos ho]
  simp
 rwa [e] at this
def kN5 (P:Program) (F:Nat→Nat) (ver:Int) (flex:Bool) (sub:List FD):Prop :=
 ∀(w:World) (sv:Value) (css:List (List Value)) (t:TR) (ts:List Value) (g:TR) (gs:List Value),SlC anyB w sv sub.length css.flatten→jU anyB w sub css→RepT anyB w t ts→RepT anyB w g gs→partT ver flex sub t g →
   Calls P (F kHV) [sv,.int .i64 ver,.bool flex,.agg ts.toArray,.agg gs.toArray].toArray w (kG6 w)
def kBI (P:Program) (F:Nat→Nat) (ver:Int) (flex:Bool) (f:FD):Prop :=
 ∀(w:World) (cs:List Value) (t:TR) (ts:List Value) (g:TR) (gs:List Value),RepF anyB w f cs→RepT anyB w t ts→RepT anyB w g gs→f.kAZ ver flex t g →
   Calls P (F kFF) [.agg cs.toArray,.int .i64 ver,.bool flex,.agg ts.toArray,.agg gs.toArray].toArray w (kG6 w)
structure ToS (w0:World) (fb tb gb:Nat) (ver:Int) (flex nl may:Bool) (fcs tcs gcs:List Value) (σ:Sl):Prop where
 bf:Blk w0 fb fcs
 bt:Blk w0 tb tcs
 bg:Blk w0 gb gcs
 s1:σ 1=.int .i64 ver
 s2:σ 2=.bool flex
 s5:σ 5=.pointer (some ⟨fb,0,none⟩)
 s8:σ 8=.pointer (some ⟨tb,0,none⟩)
 s9:σ 9=.pointer (some ⟨gb,0,none⟩)
 s11:σ 11=.bool nl
 s12:σ 12=.bool may
theorem ToS.keep {w0:World} {fb tb gb:Nat} {ver:Int} {flex nl may:Bool} {fcs tcs gcs:List Value} {σ σ':Sl} (h:ToS w0 fb tb gb ver flex nl may fcs tcs gcs σ) (hs :∀s,s<13→s≠10→σ' s=σ s):ToS w0 fb tb gb ver flex nl may fcs tcs gcs σ' :=
 ⟨h.bf,h.bt,h.bg,(hs 1 (by omega) (by omega)).trans h.s1,(hs 2 (by omega) (by omega)).trans h.s2,(hs 5 (by omega) (by omega)).trans h.s5,(hs 8 (by omega) (by omega)).trans h.s8,(hs 9 (by omega) (by omega)).trans h.s9,(hs 11 (by omega) (by omega)).trans h.s11,(hs 12 (by omega) (by omega)).trans h.s12⟩
theorem kN6 {w0 w:World} {fb tb gb:Nat} {ver:Int} {flex nl may gn:Bool} {kind:Int} {fr tcs:List Value} {gc0 gc1 gc3 gc4:Value} {σ:Sl} {Q:Exit→Sl→World→Prop} (hS:ToS w0 fb tb gb ver flex nl may (.int .i64 kind::fr) tcs [gc0,gc1,.bool gn,gc3,gc4] σ) (hm0:Mod [] w0 w)
  (h:(kind=8∨kind=10∨may=true)→gn=nl) (hQ :∀σ',(∀s,s<30→σ' s=σ s)→σ' 46=.bool false→Q .normal σ' w):wpC P (ir_stold__1 F) Q σ w:=by
 unfold ir_stold__1
 have c5:=fun k=>(hS.bf.mod hm0 (by simp)).cell k
 have c9:=fun k=>(hS.bg.mod hm0 (by simp)).cell k
 have e5:=hS.s5
 have e9:=hS.s9
 have e11:=hS.s11
 have e12:=hS.s12
 have frm :∀(σ':Sl),(∀s,s<30→σ' s=σ s)→σ' 46=.bool false→Q .normal σ' w:=hQ
 rw [kD]
 refine go1 (v:=.pointer (some ⟨fb,0,none⟩)) rfl (by simp [e5]) ?_
 refine go1 (v:=.int .i64 kind) rfl (by simp [c5]) ?_
 refine go1 (v:=.bool (kind==8)) rfl (by simp) ?_
 refine go1 (v:=.bool (kind==8)) rfl (by simp) ?_
 have fin :∀(a b c d e f g h i j k l m n o p q:Value),(p=.bool false∨True)→True:=fun _ _ _ _ _ _ _ _ _ _ _ _ _ _ _ _ _ _=>trivial
 clear fin
 by_cases k8:kind=8
 ·have hgn:=h (.inl k8)
  rw [show (kind==8)=true by simp [k8]]
  iterate 3 (refine go0 (by simp) ?_)
  refine go1 (v:=.bool true) rfl (by simp) ?_
  refine go1 (v:=.bool true) rfl (by simp) ?_
  refine go0 (by simp) ?_
  refine go1 (v:=.bool true) rfl (by simp) ?_
  refine go1 (v:=.bool true) rfl (by simp) ?_
  refine go1 (v:=.pointer (some ⟨gb,2,none⟩)) (by simp) (by simp [e9]) ?_
  refine go1 (v:=.bool gn) (by simp) (by simp [c9]) ?_
  refine go1 (v:=.bool nl) (by simp) (by simp [e11]) ?_
  refine go1 (v:=.bool false) (by simp) (by simp [hgn]) ?_
  refine go1 (v:=.bool false) rfl (by simp) (kP ?_)
  refine frm _ (fun s hs=>?_) (by simp)
  simp only [updo,upd]
  repeat rw [if_neg (by omega)]
 ·rw [show (kind==8)=false by simp [k8]]
  refine go1 (v:=.pointer (some ⟨fb,0,none⟩)) (by simp) (by simp [e5]) ?_
  refine go1 (v:=.int .i64 kind) (by simp) (by simp [c5]) ?_
  refine go1 (v:=.bool (kind==10)) (by simp) (by simp) ?_
  refine go1 (v:=.bool (kind==10)) rfl (by simp) ?_
  refine go1 (v:=.bool (kind==10)) rfl (by simp) ?_
  by_cases k10:kind=10
  ·have hgn:=h (.inr (.inl k10))
   rw [show (kind==10)=true by simp [k10]]
   refine go0 (by simp) ?_
   refine go1 (v:=.bool true) rfl (by simp) ?_
   refine go1 (v:=.bool true) rfl (by simp) ?_
   refine go1 (v:=.pointer (some ⟨gb,2,none⟩)) (by simp) (by simp [e9]) ?_
   refine go1 (v:=.bool gn) (by simp) (by simp [c9]) ?_
   refine go1 (v:=.bool nl) (by simp) (by simp [e11]) ?_
   refine go1 (v:=.bool false) (by simp) (by simp [hgn]) ?_
   refine go1 (v:=.bool false) rfl (by simp) (kP ?_)
   refine frm _ (fun s hs=>?_) (by simp)
   simp only [updo,upd]
   repeat rw [if_neg (by omega)]
  ·rw [show (kind==10)=false by simp [k10]]
   refine go1 (v:=.bool may) (by simp) (by simp [e12]) ?_
   refine go1 (v:=.bool may) rfl (by simp) ?_
   refine go1 (v:=.bool may) rfl (by simp) ?_
   cases may with
   | true =>
     have hgn:=h (.inr (.inr rfl))
     refine go1 (v:=.pointer (some ⟨gb,2,none⟩)) (by simp) (by simp [e9]) ?_
     refine go1 (v:=.bool gn) (by simp) (by simp [c9]) ?_
     refine go1 (v:=.bool nl) (by simp) (by simp [e11]) ?_
     refine go1 (v:=.bool false) (by simp) (by simp [hgn]) ?_
     refine go1 (v:=.bool false) rfl (by simp) (kP ?_)
     refine frm _ (fun s hs=>?_) (by simp)
     simp only [updo,upd]
     repeat rw [if_neg (by omega)]
   | false =>
     iterate 4 (refine go0 (by simp) ?_)
     refine go1 (v:=.bool false) rfl (by simp) (kP ?_)
     refine frm _ (fun s hs=>?_) (by simp)
     simp only [updo,upd]
     repeat rw [if_neg (by omega)]
end
end Go.Msk
