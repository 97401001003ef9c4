/- A small language of resolved operations, and what the generic and the generated functions do in it (part 13). -/
import Derived.Test.YtfoljfjkifiboaaGreatDoorFl
namespace Go.Msk
open Go.RowKit
set_option maxRecDepth 100000
theorem RepU.take {ok:Nat→Prop} {w:World} :∀{l:List (Nat×List UInt8)} {css:List (List Value)} (_:RepU ok w l css) (k:Nat),RepU ok w (l.take k) (css.take k)
 | _,_,.nil,k=>by simp;exact .nil
 | _,_,.cons h1 h2,0=>by simp;exact .nil
 | _,_,.cons h1 h2,k+1=>by simp only [List.take_succ_cons];exact .cons h1 (h2.take k)
theorem RepU.drop {ok:Nat→Prop} {w:World} :∀{l:List (Nat×List UInt8)} {css:List (List Value)} (_:RepU ok w l css) (k:Nat),RepU ok w (l.drop k) (css.drop k)
 | _,_,.nil,k=>by simp;exact .nil
 | _,_,.cons h1 h2,0=>by simp only [List.drop_zero];exact .cons h1 h2
 | _,_,.cons h1 h2,k+1=>by simp only [List.drop_succ_cons];exact h2.drop k
theorem SlC.lowN {w:World} {v:Value} {n:Nat} {cs:List Value} (h:SlC anyB w v n cs):SlC (fun b=>b<w.heap.size) w v n cs:=h.mod (Mod.refl [] w) (by simp) fun _ hb _=>hb
theorem RepU.any {ok:Nat→Prop} {w:World} {l:List (Nat×List UInt8)} {cs:List (List Value)} (h:RepU ok w l cs):RepU anyB w l cs:=h.mod (Mod.refl [] w) (by simp) fun _ _ _=>trivial
theorem RepU.oneCell {ok:Nat→Prop} {w:World} {l:List (Nat×List UInt8)} {css:List (List Value)} (h:RepU ok w l css) :∀c∈css,∀v∈c,v.oneCell'=true:=by
 induction h with
 | nil=>intro c hc;simp at hc
 | cons h _ ih =>
   intro c hc v hv
   rcases List.mem_cons.1 hc with rfl|hc
   ·simp only [List.mem_cons,List.not_mem_nil,or_false] at hv
    rcases hv with rfl|rfl
    ·rfl
    ·exact h.one
   ·exact ih c hc v hv
theorem kNL {α:Type} {l:List α} {m:Nat} {x y:α} (h:l[m]?=some y):(l.take (m+1)++x::l.drop (m+1)).set (m+1) y=l.take m++y::l.drop m:=by
 have hl:m<l.length:=(List.getElem?_eq_some_iff.1 h).1
 have e1:(l.take (m+1)).length=m+1:=by simp;omega
 have:l.take (m+1)=l.take m++[y]:=yK h
 rw [List.set_append,if_neg (by omega),e1,Nat.sub_self,List.set_cons_zero,this,List.append_assoc]
 have e2:l.drop m=y::l.drop (m+1):=by
  rw [List.drop_eq_getElem_cons hl]
  congr 1
  exact (List.getElem?_eq_some_iff.1 h).2
 rw [e2];rfl
theorem set_mid {α:Type} {l:List α} {m:Nat} {x y:α} (h:m≤l.length):(l.take m++x::l.drop m).set m y=l.take m++y::l.drop m:=by
 have e1:(l.take m).length=m:=by simp;omega
 rw [List.set_append,if_neg (by omega),e1,Nat.sub_self,List.set_cons_zero]
theorem mid_get {α:Type} {l:List α} {m j:Nat} {x:α} (hm:m≤l.length) (hj:j<m):(l.take m++x::l.drop m)[j]?=l[j]?:=by
 rw [List.getElem?_append_left (by simp;omega),List.getElem?_take,if_pos hj]
section
variable {P:Program} {F:Nat→Nat}
attribute [local simp] gOk updo upd ev RK.val? kL kM Addr.kK qE Value.cells undef
theorem kPS {σ:Sl} {w:World} {N i k tb:Nat} {lv sv:Value} {ucs:List (List Value)} {out:List (Nat×List UInt8)} {Q:Exit→Sl→World→Prop} (h6:σ 6=lv) (h8:σ 8=.pointer (some ⟨tb,0,none⟩)) (h9:σ 9=.int .i64 (i:Nat))
  (hraw:x9 w N lv ucs) (hrep:RepU (fun b=>b<N) w out ucs) (htb:Blk w tb [.int .u32 (k:Nat),sv])
  (hQ :∀σ' w',(∀s,s<23→σ' s=σ s)→σ' 36=.bool (match out[i]? with|some t=>decide (t.1<k)|none=>false)→Mod [] w w'→Q .normal σ' w'):wpC P (ir_sUnknown_1 F) Q σ w:=by
 have hm:Mod [] w w.drew:=Mod.drew _ _
 have ct:=fun k=>(htb.mod hm (by simp)).cell k
 have hlen:=hrep.length
 have hsl:=(hraw.slcN.any).keep hm
 obtain ⟨b,c,e6⟩:=hsl.shape
 unfold ir_sUnknown_1
 simp only [wpC]
 refine xC rfl ?_
 simp only [List.map_cons,List.map_nil,List.append_nil]
 refine go1 (v:=.int .i64 (i:Nat)) rfl (by simp [h9]) ?_
 refine go1 (v:=lv) rfl (by simp [h6]) ?_
 refine go1 (v:=.int .i64 (ucs.length:Nat)) rfl (by simp [e6]) ?_
 refine go1 (v:=.bool (decide (i<out.length))) rfl (by simp [hlen]) ?_
 refine go1 (v:=.bool (decide (i<out.length))) rfl (by simp) ?_
 by_cases hi:i<out.length
 ·obtain ⟨t,ht⟩ :∃t,out[i]?=some t:=⟨out[i],by simp [hi]⟩
  obtain ⟨v,hv1,hv2⟩:=hrep.nth ht
  obtain ⟨p,cc,ep,hj,hcell0,hcell1⟩:=hsl.pair rfl hraw.two hv1
  refine go1 (v:=lv) (by simp [hi]) (by simp [h6]) ?_
  refine go1 (v:=.int .i64 (i:Nat)) (by simp [hi]) (by simp [h9]) ?_
  refine go1 (v:=.pointer (some (p.add (i*2)))) (by simp [hi]) (by simp [ep];omega) ?_
  refine go1 (v:=.pointer (some ((p.add (i*2)).add 0))) (by simp [hi]) (by simp) ?_
  refine go1 (v:=.int .u32 (t.1:Nat)) (by simp [hi]) (by simp [hcell0]) ?_
  refine go1 (v:=.pointer (some ⟨tb,0,none⟩)) (by simp [hi]) (by simp [h8]) ?_
  refine go1 (v:=.int .u32 (k:Nat)) (by simp [hi]) (by simp [ct]) ?_
  refine go1 (v:=.bool (decide (t.1<k))) (by simp [hi]) (by simp) ?_
  refine go1 (v:=.bool (decide (t.1<k))) rfl (by simp [hi]) ?_
  refine kP (hQ _ _ ?_ (by simp [ht]) hm)
  intro s hs
  simp only [updo,upd]
  repeat rw [if_neg (by omega)]
 ·have ht:out[i]?=none:=by simp;omega
  iterate 8 (refine go0 (by simp [hi]) ?_)
  refine go1 (v:=.bool false) rfl (by simp [hi]) ?_
  refine kP (hQ _ _ ?_ (by simp [ht]) hm)
  intro s hs
  simp only [updo,upd]
  repeat rw [if_neg (by omega)]
theorem kPT {σ:Sl} {w:World} {N k tb:Nat} {lv sv:Value} {ucs:List (List Value)} {out:List (Nat×List UInt8)} {Q:Exit→Sl→World→Prop} (h6:σ 6=lv) (h8:σ 8=.pointer (some ⟨tb,0,none⟩)) (h9:σ 9=.int .i64 0)
  (hraw:x9 w N lv ucs) (hrep:RepU (fun b=>b<N) w out ucs) (htb:Blk w tb [.int .u32 (k:Nat),sv]) (hlen:out.length<2147483648)
  (hQ :∀σ' w',(∀s,s<23→s≠9→σ' s=σ s)→σ' 9=.int .i64 (posU k out:Nat)→Mod [] w w'→Q .normal σ' w') :
  wpC P (.block 2 (.loop (.seq (.seq (ir_sUnknown_1 F)
                  (.cond (.tmp 36)
                   (.skip)
                   (.exit 2)))
                (.block 3 (.blk [⟨(some (37)),.mv (.tmp 9),none⟩,
                  ⟨(some (38)),.bin .add (.tmp 37) (.const (.int .i64 1)),none⟩,
                  ⟨(some (9)),.mv (.tmp 38),none⟩]))))) Q σ w:=by
 rw [wpC_block,wpC_loop]
 refine ⟨fun σ1 w1 =>∃i,i≤posU k out∧σ1 9=.int .i64 (i:Nat)∧(∀s,s<23→s≠9→σ1 s=σ s)∧Mod [] w w1,fun σ1 _=>posU k out-(match σ1 9 with|.int _ j=>j.toNat|_=>0),⟨0,Nat.zero_le _,h9,fun _ _ _=>rfl,Mod.refl _ _⟩,?_⟩
 rintro σ1 w1 ⟨i,hi,k9,hfr,hm1⟩
 rw [wpC_seq,wpC_seq]
 refine kPS (lv:=lv) (by rw [hfr 6 (by omega) (by omega)];exact h6) (by rw [hfr 8 (by omega) (by omega)];exact h8) k9 (hraw.mod hm1 (by simp)) (hrep.mod hm1 (by simp) fun _ _ h=>h) (htb.mod hm1 (by simp)) fun σ2 w2 hfr2 h36 hm2=>?_
 simp only [kF]
 have hfr' :∀s,s<23→s≠9→σ2 s=σ s:=fun s h1 h2=>by rw [hfr2 s h1];exact hfr s h1 h2
 by_cases hlt:i<posU k out
 ·obtain ⟨t,ht,htk⟩:=kNH hlt
  rw [kI (by rw [ev,h36,ht];simp [htk]),wpC_skip]
  simp only [kF]
  rw [wpC_block,kD]
  have hle:=kJZ k out
  refine go1 (v:=.int .i64 (i:Nat)) rfl (by simp [hfr2,k9]) ?_
  refine go1 (v:=.int .i64 ((i+1:Nat):Int)) rfl (by
   simp only [RK.val?,ev,updo,upd,if_true,kL,decide_true,Bool.or_true,kM]
   rw [show (i:Int)+1=((i+1:Nat):Int) by omega,xR (by omega)]) ?_
  refine go1 (v:=.int .i64 ((i+1:Nat):Int)) rfl (by simp) (kP ?_)
  simp only [kR,kF]
  refine ⟨⟨i+1,by omega,by simp,fun s h1 h2=>?_,hm1.trans hm2⟩,?_⟩
  ·rw [←hfr' s h1 h2];simp only [updo,upd]
   repeat rw [if_neg (by omega)]
  ·simp only [updo,upd,if_true,k9,Int.toNat_natCast]
   have:posU k out-(i+1)<posU k out-i:=by omega
   exact this
 ·have:i=posU k out:=by omega
  subst this
  have hf:σ2 36=.bool false:=by
   rw [h36]
   cases ht:out[posU k out]? with
   | none=>rfl
   | some t=>simp [kNI ht]
  rw [kG (by rw [ev,hf])]
  simp only [wpC,kF,kR,if_true]
  exact hQ σ2 w2 hfr' (by rw [hfr2 9 (by omega)];exact k9) (hm1.trans hm2)
theorem kPU {σ:Sl} {w:World} {N k tb least i:Nat} {lv sv:Value} {ucs:List (List Value)} {out:List (Nat×List UInt8)} {Q:Exit→Sl→World→Prop} (h5:σ 5=.int .u32 (least:Nat)) (h6:σ 6=lv) (h8:σ 8=.pointer (some ⟨tb,0,none⟩)) (h9:σ 9=.int .i64 (i:Nat))
  (hraw:x9 w N lv ucs) (hrep:RepU (fun b=>b<N) w out ucs) (htb:Blk w tb [.int .u32 (k:Nat),sv])
  (hQ :∀σ' w',(∀s,s<23→σ' s=σ s)→σ' 58=.bool (decide (k<least)||decide ((out[i]?).map (·.1)=some k))→Mod [] w w'→Q .normal σ' w'):wpC P (ir_sUnknown_2 F) Q σ w:=by
 have hm:Mod [] w w.drew:=Mod.drew _ _
 have ct:=fun k=>(htb.mod hm (by simp)).cell k
 have hlen:=hrep.length
 have hsl:=(hraw.slcN.any).keep hm
 obtain ⟨b,c,e6⟩:=hsl.shape
 unfold ir_sUnknown_2
 simp only [wpC]
 refine xC rfl ?_
 simp only [List.map_cons,List.map_nil,List.append_nil]
 refine go1 (v:=.pointer (some ⟨tb,0,none⟩)) rfl (by simp [h8]) ?_
 refine go1 (v:=.int .u32 (k:Nat)) rfl (by simp [ct]) ?_
 refine go1 (v:=.int .u32 (least:Nat)) rfl (by simp [h5]) ?_
 refine go1 (v:=.bool (decide (k<least))) rfl (by simp) ?_
 refine go1 (v:=.bool (decide (k<least))) rfl (by simp) ?_
 by_cases hk:k<least
 ·iterate 14 (refine go0 (by simp [hk]) ?_)
  refine go1 (v:=.bool true) rfl (by simp [hk]) ?_
  refine kP (hQ _ _ ?_ (by simp [hk]) hm)
  intro s hs
  simp only [updo,upd]
  repeat rw [if_neg (by omega)]
 ·refine go1 (v:=.int .i64 (i:Nat)) (by simp [hk]) (by simp [h9]) ?_
  refine go1 (v:=lv) (by simp [hk]) (by simp [h6]) ?_
  refine go1 (v:=.int .i64 (ucs.length:Nat)) (by simp [hk]) (by simp [e6]) ?_
  refine go1 (v:=.bool (decide (i<out.length))) (by simp [hk]) (by simp [hlen]) ?_
  refine go1 (v:=.bool (decide (i<out.length))) (by simp [hk]) (by simp) ?_
  by_cases hi:i<out.length
  ·obtain ⟨t,ht⟩ :∃t,out[i]?=some t:=⟨out[i],by simp [hi]⟩
   obtain ⟨v,hv1,hv2⟩:=hrep.nth ht
   obtain ⟨p,cc,ep,hj,hcell0,hcell1⟩:=hsl.pair rfl hraw.two hv1
   refine go1 (v:=lv) (by simp [hi]) (by simp [h6]) ?_
   refine go1 (v:=.int .i64 (i:Nat)) (by simp [hi]) (by simp [h9]) ?_
   refine go1 (v:=.pointer (some (p.add (i*2)))) (by simp [hi]) (by simp [ep];omega) ?_
   refine go1 (v:=.pointer (some ((p.add (i*2)).add 0))) (by simp [hi]) (by simp) ?_
   refine go1 (v:=.int .u32 (t.1:Nat)) (by simp [hi]) (by simp [hcell0]) ?_
   refine go1 (v:=.pointer (some ⟨tb,0,none⟩)) (by simp [hi]) (by simp [h8]) ?_
   refine go1 (v:=.int .u32 (k:Nat)) (by simp [hi]) (by simp [ct]) ?_
   refine go1 (v:=.bool (decide (t.1=k))) (by simp [hi]) (by
    simp
    by_cases e:t.1=k
    ·simp [e]
    ·have :¬((t.1:Int)=k):=by omega
     simp [e,this]) ?_
   refine go1 (v:=.bool (decide (t.1=k))) (by simp [hk]) (by simp [hi]) ?_
   refine go1 (v:=.bool (decide (t.1=k))) rfl (by simp [hk]) ?_
   refine kP (hQ _ _ ?_ (by simp [ht,hk]) hm)
   intro s hs
   simp only [updo,upd]
   repeat rw [if_neg (by omega)]
  ·have ht:out[i]?=none:=by simp;omega
   iterate 8 (refine go0 (by simp [hi]) ?_)
   refine go1 (v:=.bool false) (by simp [hk]) (by simp [hi]) ?_
   refine go1 (v:=.bool false) rfl (by simp [hk]) ?_
   refine kP (hQ _ _ ?_ (by simp [ht,hk]) hm)
   intro s hs
   simp only [updo,upd]
   repeat rw [if_neg (by omega)]
theorem kNM {σ:Sl} {w:World} {i n B cap:Nat} {ucs:List (List Value)} {z rest:List Value} {Q:Exit→Sl→World→Prop} (h6:σ 6=.slice (some ⟨B,0,none⟩) (n+1) cap) (h9:σ 9=.int .i64 (i:Nat)) (hi:i≤n) (hn:ucs.length=n) (hbig:n<2147483648)
  (h2 :∀c∈ucs,c.length=2) (hone :∀c∈ucs,∀v∈c,v.oneCell'=true) (hz:z.length=2) (hb:Blk w B ((ucs++[z]).flatten++rest))
  (hQ :∀σ' w' x,(∀s,s<63→s≠10→σ' s=σ s)→x.length=2→Blk w' B ((ucs.take i++x::ucs.drop i).flatten++rest)→Mod [B] w w'→Q .normal σ' w'):wpC P (ir_sUnknown_3 F) Q σ w:=by
 unfold ir_sUnknown_3
 rw [wpC_seq,kD]
 refine go1 (v:=.slice (some ⟨B,0,none⟩) (n+1) cap) rfl (by simp [h6]) ?_
 refine go1 (v:=.int .i64 ((n+1:Nat):Int)) rfl (by simp) ?_
 refine go1 (v:=.int .i64 (n:Nat)) rfl (by
  simp only [RK.val?,ev,updo,upd,if_true,kL,decide_true,Bool.or_true,kM]
  rw [show ((n+1:Nat):Int)-1=(n:Int) by omega,xR (by omega)]) ?_
 refine go1 (v:=.int .i64 (n:Nat)) rfl (by simp) (kE ?_)
 rw [wpC_block,wpC_loop]
 refine ⟨fun σ1 w1 =>∃m x,i≤m∧m≤n∧σ1 10=.int .i64 (m:Nat)∧(∀s,s<63→s≠10→σ1 s=σ s)∧x.length=2∧Blk w1 B ((ucs.take m++x::ucs.drop m).flatten++rest)∧Mod [B] w w1,
  fun σ1 _=>(match σ1 10 with|.int _ j=>j.toNat|_=>0),⟨n,z,hi,Nat.le_refl _,by simp,fun s h1 h2=>?_,hz,?_,Mod.refl _ _⟩,?_⟩
 ·simp only [updo,upd]
  repeat rw [if_neg (by omega)]
 ·rw [List.take_of_length_le (by omega),List.drop_eq_nil_of_le (by omega)];exact hb
 ·rintro σ1 w1 ⟨m,x,him,hmn,k10,hfr,hx,hbl,hm1⟩
  rw [wpC_seq,wpC_seq,kD]
  refine go1 (v:=.int .i64 (m:Nat)) rfl (by simp [k10]) ?_
  refine go1 (v:=.int .i64 (i:Nat)) rfl (by simp [hfr,h9]) ?_
  refine go1 (v:=.bool (decide (m>i))) rfl (by simp) (kE ?_)
  by_cases hlt:m>i
  ·rw [kI (by simp [hlt]),wpC_skip]
   simp only [kF]
   rw [wpC_seq,wpC_block,kD]
   obtain ⟨m,rfl⟩ :∃k,m=k+1:=⟨m-1,by omega⟩
   obtain ⟨y,hy⟩ :∃y,ucs[m]?=some y:=⟨ucs[m],by simp<;>omega⟩
   have hall :∀c∈ucs.take (m+1)++x::ucs.drop (m+1),c.length=2:=by
    intro c hc
    rcases List.mem_append.1 hc with hc|hc
    ·exact h2 c (List.mem_of_mem_take hc)
    ·rcases List.mem_cons.1 hc with rfl|hc
     ·exact hx
     ·exact h2 c (List.mem_of_mem_drop hc)
   have hy2:y.length=2:=h2 y (List.mem_of_getElem? hy)
   have hcell:kV w1 ⟨B,m*2,none⟩ 0 2=some y:=by
    have hc:=hbl.cells.take (ucs.take (m+1)++x::ucs.drop (m+1)).flatten.length
    rw [List.take_left] at hc
    have:=kBA hc hall (j:=m) (by rw [mid_get (by omega) (by omega)];exact hy)
    simp only [Nat.zero_add] at this
    exact kJ this hy2
   have f6:σ1 6=.slice (some ⟨B,0,none⟩) (n+1) cap:=by rw [hfr 6 (by omega) (by omega)];exact h6
   refine go1 (v:=.slice (some ⟨B,0,none⟩) (n+1) cap) rfl (by simp [f6]) ?_
   refine go1 (v:=.int .i64 ((m+1:Nat):Int)) rfl (by simp [k10]) ?_
   refine go1 (v:=.slice (some ⟨B,0,none⟩) (n+1) cap) rfl (by simp [f6]) ?_
   refine go1 (v:=.int .i64 ((m+1:Nat):Int)) rfl (by simp [k10]) ?_
   refine go1 (v:=.int .i64 (m:Nat)) rfl (by
    simp only [RK.val?,ev,updo,upd,if_true,kL,decide_true,Bool.or_true,kM]
    rw [show ((m+1:Nat):Int)-1=(m:Int) by omega,xR (by omega)]) ?_
   refine go1 (v:=.pointer (some ⟨B,m*2,none⟩)) rfl (by simp;omega) ?_
   refine go1 (v:=.agg y.toArray) rfl (by simp [hcell]) ?_
   refine go1 (v:=.pointer (some ⟨B,(m+1)*2,none⟩)) rfl (by simp;omega) ?_
   refine kX ?_
   have hfl:((ucs.take (m+1)++x::ucs.drop (m+1)).flatten).length=(n+1)*2:=by
    rw [yD hall]
    simp;omega
   have hput:=hbl.put (o:=(m+1)*2) (vs:=y) (by simp only [List.length_append,hfl];omega)
   rw [kFN hall hy2 (by simp;omega),kNL hy] at hput
   have hmput:Mod [B] w1 (putCells w1 ⟨B,(m+1)*2,none⟩ 0 y):=Mod.put (by simp)
   simp only [RK.run,ev,updo,upd,if_true]
   refine ⟨by simpa using hy2,qL hbl (by simp only [List.length_append,hfl];simp [hy2];omega) (by simpa using hone y (List.mem_of_getElem? hy)),?_⟩
   refine kP ?_
   simp only [kR,kF]
   rw [kD]
   refine go1 (v:=.int .i64 ((m+1:Nat):Int)) rfl (by simp [k10]) ?_
   refine go1 (v:=.int .i64 (m:Nat)) rfl (by
    simp only [RK.val?,ev,updo,upd,if_true,kL,decide_true,Bool.or_true,kM]
    rw [show ((m+1:Nat):Int)-1=(m:Int) by omega,xR (by omega)]) ?_
   refine go1 (v:=.int .i64 (m:Nat)) rfl (by simp) (kP ?_)
   simp only [kF]
   refine ⟨⟨m,y,by omega,by omega,by simp,fun s h1 h2=>?_,hy2,by simpa using hput,hm1.trans (by simpa using hmput)⟩,?_⟩
   ·rw [←hfr s h1 h2];simp only [updo,upd]
    repeat rw [if_neg (by omega)]
   ·simp [k10]
  ·have:m=i:=by omega
   subst this
   rw [kG (by simp)]
   simp only [wpC,kF,kR,if_true]
   refine hQ _ w1 x (fun s h1 h2=>?_) hx hbl hm1
   rw [←hfr s h1 h2];simp only [updo,upd]
   repeat rw [if_neg (by omega)]
end
theorem kEQ (k:Nat) (b:List UInt8) :∀l,(insU k b l).length≤l.length+1
 | []=>by simp [insU]
 | (k',b')::r=>by
   have:=kEQ k b r
   simp only [insU];repeat' split
   all_goals simp
   omega
theorem kBB (least:Nat) :∀(u out:List (Nat×List UInt8)),(u.foldl (zS least) out).length≤out.length+u.length
 | [],out=>by simp
 | t::u,out=>by
   have h1:=kBB least u (zS least out t)
   have h2:(zS least out t).length≤out.length+1:=by
    unfold zS;split
    ·omega
    ·exact kEQ _ _ _
   simp only [List.foldl_cons,List.length_cons];omega
theorem kGY {k:Nat} {sv:Value} (h:sv.oneCell'=true) :∀y∈(Value.agg #[.int .u32 (k:Nat),sv]).cells.toList,y.oneCell'=true:=by
 intro y hy
 have:y=.int .u32 (k:Nat)∨y=sv:=by simpa [Value.cells] using hy
 rcases this with rfl|rfl
 ·rfl
 ·exact h
structure UQ (ok:Nat→Prop) (w0 w:World) (lv:Value) (out:List (Nat×List UInt8)) (ucs:List (List Value)):Prop where
 raw:x9 w w0.heap.size lv ucs
 rep:RepU (fun b=>ok b∧b<w0.heap.size) w out ucs
 mod:Mod [] w0 w
theorem UQ.keep {ok:Nat→Prop} {w0 w w':World} {lv:Value} {out:List (Nat×List UInt8)} {ucs:List (List Value)} (h:UQ ok w0 w lv out ucs) (hm:Mod [] w w'):UQ ok w0 w' lv out ucs :=
 ⟨h.raw.mod hm (by simp),h.rep.mod hm (by simp) fun _ _ h=>h,h.mod.trans hm⟩
theorem UQ.low {ok:Nat→Prop} {w0 w:World} {lv:Value} {out:List (Nat×List UInt8)} {ucs:List (List Value)} (h:UQ ok w0 w lv out ucs):RepU (fun b=>b<w0.heap.size) w out ucs:=h.rep.mod (Mod.refl [] _) (by simp) fun _ _ h=>h.2
section
variable {P:Program} {F:Nat→Nat}
attribute [local simp] gOk updo upd ev RK.val? kL kM Addr.kK qE Value.cells undef
theorem kPV {ok:Nat→Prop} {σ:Sl} {w0 w:World} {j least n k:Nat} {lv sv:Value} {b:List UInt8} {ucs:List (List Value)} {out:List (Nat×List UInt8)} {a:Addr} {c:Nat} {Q:Exit→Sl→World→Prop} (h5:σ 5=.int .u32 (least:Nat)) (h6:σ 6=lv) (h17:σ 17=.slice (some a) n c) (h19:σ 19=.int .i64 (j:Nat)) (hj:j<n)
  (hq:UQ ok w0 w lv out ucs) (hcell:kV w (a.add (j*2)) 0 2=some [.int .u32 (k:Nat),sv]) (hsv:SlC (fun b=>ok b∧b<w0.heap.size) w sv b.length (u8s b)) (hout:out.length<2147483647)
  (hQ :∀σ' w' lv' ucs',(∀s,s<23→s≠6→s≠8→s≠9→s≠10→s≠21→s≠22→σ' s=σ s)→σ' 6=lv'→UQ ok w0 w' lv' (zS least out (k,b)) ucs'→Q (.exit 1) σ' w'∧Q .normal σ' w'):wpC P (ir_sUnknown_4 F) Q σ w:=by
 unfold ir_sUnknown_4
 rw [wpC_seq,kD]
 refine go1 (v:=.pointer (some (a.add (j*2)))) rfl (by simp [h17,h19,hj]) ?_
 refine go1 (v:=.agg #[.int .u32 (k:Nat),sv]) rfl (by simp [hcell]) ?_
 refine jI fun w1 hb1 hm1=>?_
 refine goSt (b:=w.heap.size) (v:=.agg #[.int .u32 (k:Nat),sv]) (by simp) (by simp) hb1 rfl rfl (kGY hsv.one) fun w2 hb2 hm2=>?_
 have hm02:Mod [] w w2:=Mod.drop (b:=w.heap.size) (S:=[]) (hm1.nil.trans hm2) (Nat.le_refl _)
 have hq2:=hq.keep hm02
 have hsv2:SlC (fun b=>ok b∧b<w0.heap.size) w2 sv b.length (u8s b):=hsv.mod hm02 (by simp) fun _ _ h=>h
 refine kE ?_
 rw [wpC_seq,kD]
 refine go1 rfl rfl (kE ?_)
 rw [wpC_seq]
 refine kPT (k:=k) (tb:=w.heap.size) (sv:=sv) (lv:=lv) (by simp [h6]) (by simp) (by simp) hq2.raw hq2.low (by simpa using hb2) (by omega) fun σ1 w3 hfr h9 hm3=>?_
 have hq3:=hq2.keep hm3
 have f5:σ1 5=.int .u32 (least:Nat):=by rw [hfr 5 (by omega) (by omega)];simp [h5]
 have f6:σ1 6=lv:=by rw [hfr 6 (by omega) (by omega)];simp [h6]
 have f8:σ1 8=.pointer (some ⟨w.heap.size,0,none⟩):=by rw [hfr 8 (by omega) (by omega)];simp
 simp only [kF]
 rw [wpC_seq,wpC_seq]
 have hb3:Blk w3 w.heap.size [.int .u32 (k:Nat),sv]:=Blk.mod (by simpa using hb2) hm3 (by simp)
 refine kPU (least:=least) (k:=k) (tb:=w.heap.size) (sv:=sv) (lv:=lv) f5 f6 f8 h9 hq3.raw hq3.low hb3 fun σ2 w4 hfr2 h58 hm4=>?_
 have hq4:=hq3.keep hm4
 have hb4:=hb3.mod hm4 (by simp)
 simp only [kF]
 have hfr12 :∀s,s<23→s≠8→s≠9→s≠21→s≠22→σ2 s=σ s:=by
  intro s h1 h2 h3 h4 h5
  rw [hfr2 s h1,hfr s h1 h3]
  simp only [updo,upd]
  repeat rw [if_neg (by omega)]
 by_cases hk:k<least
 ·rw [kI (by rw [ev,h58];simp [hk])]
  simp only [wpC,kF]
  refine (hQ σ2 w4 lv ucs (fun s h1 _ h2 h3 _ h4 h5=>hfr12 s h1 h2 h3 h4 h5) (by rw [hfr12 6 (by omega) (by omega) (by omega) (by omega) (by omega)];exact h6) ?_).1
  unfold zS;rw [if_pos hk];exact hq4
 ·by_cases he:(out[posU k out]?).map (·.1)=some k
  ·rw [kI (by rw [ev,h58];simp [he])]
   simp only [wpC,kF]
   refine (hQ σ2 w4 lv ucs (fun s h1 _ h2 h3 _ h4 h5=>hfr12 s h1 h2 h3 h4 h5) (by rw [hfr12 6 (by omega) (by omega) (by omega) (by omega) (by omega)];exact h6) ?_).1
   unfold zS;rw [if_neg hk,kGV,if_pos he];exact hq4
  ·rw [kG (by rw [ev,h58];simp [hk,he]),wpC_skip]
   simp only [kF]
   rw [wpC_seq,kD]
   have hlen:=hq4.rep.length
   have hpos:=kJZ k out
   refine go1 (v:=lv) rfl (by simp [hfr2,f6]) ?_
   refine go1 (v:=.agg #[.int .u32 0,.slice none 0 0]) rfl rfl ?_
   refine goOne (cs:=[.int .u32 0,.slice none 0 0]) (by simp) rfl rfl fun w5 hbz hm5=>?_
   have hq5:=hq4.keep hm5
   refine kX ?_
   refine kC3 (lv:=lv) (css:=ucs) (by simp []) hq5.raw hq5.mod.size (by simp) hbz rfl (by simp [Value.oneCell']) (by omega) fun lv' w6 hraw6 hown=>?_
   have hm06:Mod [] w0 w6∧RepU (fun b=>ok b∧b<w0.heap.size) w6 out ucs∧(∀b,b<w0.heap.size∨b=w.heap.size→b<w5.heap.size→w6.heap[b]?=w5.heap[b]?):=by
    rcases hown with ⟨⟨ho,hm6⟩,-⟩|⟨ho,hm6⟩
    ·have hge :∀b,own lv=some b→w0.heap.size≤b∧b<w.heap.size:=fun b hb=>⟨(hq.raw.own hb).1,(hq.raw.own hb).2⟩
     refine ⟨?_,hq5.rep.mod hm6 (fun b hb hc=>by have:=hge b (by simpa using hb);have:=hc.2;omega) fun _ _ h=>h,fun b hb hlt=>hm6.block b hlt fun hc=>by have:=hge b (by simpa using hc);omega⟩
     cases ho:own lv with
     | none=>rw [ho] at hm6;exact hq5.mod.trans hm6.nil
     | some b =>
       rw [ho] at hm6
       exact Mod.drop (b:=b) (S:=[]) ((hq5.mod.nil).trans (hm6.mono (by simp))) (hge b ho).1
    ·exact ⟨hq5.mod.trans hm6,hq5.rep.mod hm6 (by simp) fun _ _ h=>h,fun b hb hlt=>hm6.block b hlt (by simp)⟩
   obtain ⟨k1,k2,k3⟩:=hm06
   have htb6:Blk w6 w.heap.size [.int .u32 (k:Nat),sv]:=by
    have:=hb4.mod hm5 (by simp)
    exact this.of_heap (k3 _ (.inr rfl) this.lt)
   have hsv6:SlC (fun b=>ok b∧b<w0.heap.size) w6 sv b.length (u8s b):=by
    have h5:SlC (fun b=>ok b∧b<w0.heap.size) w5 sv b.length (u8s b):=hsv.mod ((hm02.trans hm3).trans (hm4.trans hm5)) (by simp) fun _ _ h=>h
    obtain ⟨base,cp,e1,e2,e3,e4⟩:=h5
    refine ⟨base,cp,e1,e2,e3,fun a ha hc=>?_⟩
    obtain ⟨q1,q2,q3⟩:=e4 a ha hc
    exact ⟨q1,Nat.lt_of_lt_of_le q1.2 k1.size,q3.of_eq (k3 _ (.inl q1.2) q2)⟩
   rcases hraw6.sl with ⟨-,hnil⟩|⟨B,cap,rest,elv,hcap,hB,hblk,hrest⟩
   ·simp at hnil
   refine go1 (v:=lv') rfl (by simp) (kE ?_)
   rw [wpC_seq]
   refine kNM (B:=B) (cap:=cap) (n:=out.length) (i:=posU k out) (ucs:=ucs) (z:=[.int .u32 0,.slice none 0 0]) (rest:=rest) (by simp [elv,hlen]) (by simp [hfr2,h9]) hpos hlen.symm (by omega) hq4.raw.two hq4.rep.oneCell rfl (by simpa using hblk) fun σ3 w7 x hfr3 hx hblk7 hm7=>?_
   simp only [kF]
   rw [kD]
   have htB:w.heap.size≠B:=by
    intro e
    have:=hown
    rcases this with ⟨⟨ho,-⟩,-⟩|⟨ho,-⟩
    ·rw [elv] at ho
     have h1:own lv=some B:=by rw [←ho];rfl
     have:=(hq.raw.own h1).2;omega
    ·rw [elv] at ho
     simp only [own,Option.some.injEq] at ho
     have:=hbz.lt;have:=hm02.size;have:=hm3.size;have:=hm4.size;have:=hm5.size
     have:=hb4.lt;omega
   have htb7:Blk w7 w.heap.size [.int .u32 (k:Nat),sv]:=htb6.mod hm7 (by simpa using htB)
   have g6:σ3 6=.slice (some ⟨B,0,none⟩) (out.length+1) cap:=by rw [hfr3 6 (by omega) (by omega)];simp [elv,hlen]
   have g8:σ3 8=.pointer (some ⟨w.heap.size,0,none⟩):=by rw [hfr3 8 (by omega) (by omega)];simp [hfr2,f8]
   have g9:σ3 9=.int .i64 (posU k out:Nat):=by rw [hfr3 9 (by omega) (by omega)];simp [hfr2,h9]
   have hct:=kJ htb7.cells (n:=2) rfl
   refine go1 (v:=.slice (some ⟨B,0,none⟩) (out.length+1) cap) rfl (by simp [g6]) ?_
   refine go1 (v:=.int .i64 (posU k out:Nat)) rfl (by simp [g9]) ?_
   refine go1 (v:=.agg #[.int .u32 (k:Nat),sv]) rfl (by simp [g8,hct]) ?_
   refine go1 (v:=.pointer (some ⟨B,posU k out*2,none⟩)) rfl (by simp;omega) ?_
   have hall :∀c∈ucs.take (posU k out)++x::ucs.drop (posU k out),c.length=2:=by
    intro c hc
    rcases List.mem_append.1 hc with hc|hc
    ·exact hq4.raw.two c (List.mem_of_mem_take hc)
    ·rcases List.mem_cons.1 hc with rfl|hc
     ·exact hx
     ·exact hq4.raw.two c (List.mem_of_mem_drop hc)
   have hlen7:(ucs.take (posU k out)++x::ucs.drop (posU k out)).length=ucs.length+1:=by simp;omega
   have hfl:((ucs.take (posU k out)++x::ucs.drop (posU k out)).flatten).length=(ucs.length+1)*2:=by rw [yD hall,hlen7]
   have hput:=hblk7.put (o:=posU k out*2) (vs:=[.int .u32 (k:Nat),sv]) (by simp only [List.length_append,hfl];simp;omega)
   rw [kFN hall rfl (by rw [hlen7];omega),set_mid (by omega)] at hput
   have hmput:Mod [B] w7 (putCells w7 ⟨B,posU k out*2,none⟩ 0 [.int .u32 (k:Nat),sv]):=Mod.put (by simp)
   refine kX ?_
   simp only [RK.run,ev,updo,upd,if_true]
   refine ⟨rfl,qL hblk7 (by simp only [List.length_append,hfl];simp;omega) (kGY hsv.one),?_⟩
   refine kP ?_
   simp only [Value.cells]
   have hm08:Mod [] w0 (putCells w7 ⟨B,posU k out*2,none⟩ 0 [.int .u32 (k:Nat),sv]):=Mod.drop (b:=B) (S:=[]) (k1.nil.trans (hm7.trans hmput)) hB
   refine (hQ _ _ (.slice (some ⟨B,0,none⟩) (out.length+1) cap) (ucs.take (posU k out)++[.int .u32 (k:Nat),sv]::ucs.drop (posU k out)) (fun s s1 s2 s3 s4 s5 s6 s7=>?_) ?_ ⟨⟨?_,.inr ⟨B,cap,rest,?_,?_,hB,hput,?_⟩⟩,?_,hm08⟩).2
   ·simp only [upd]
    repeat rw [if_neg (by omega)]
    rw [hfr3 s (by omega) s5]
    simp only [updo,upd]
    repeat rw [if_neg (by omega)]
    exact hfr12 s s1 s3 s4 s6 s7
   ·simp [g6]
   ·intro c hc
    rcases List.mem_append.1 hc with hc|hc
    ·exact hq4.raw.two c (List.mem_of_mem_take hc)
    ·rcases List.mem_cons.1 hc with rfl|hc
     ·rfl
     ·exact hq4.raw.two c (List.mem_of_mem_drop hc)
   ·simp;omega
   ·simp at hcap ⊢;omega
   ·simp at hrest ⊢;omega
   ·have e:zS least out (k,b)=out.take (posU k out)++(k,b)::out.drop (posU k out):=by
     unfold zS;rw [if_neg hk,kGV,if_neg he]
    rw [e]
    have hmB:Mod [B] w6 (putCells w7 ⟨B,posU k out*2,none⟩ 0 [.int .u32 (k:Nat),sv]):=hm7.trans hmput
    have hr:=k2.mod (ok':=fun b=>ok b∧b<w0.heap.size) hmB (by simp;omega) fun _ _ h=>h
    exact (hr.take _).append (.cons (hsv6.mod hmB (by simp;omega) fun _ _ h=>h) (hr.drop _))
theorem kCJ {ok:Nat→Prop} (hm:P.follows .mixedOrders=true) (h:kH P (F yA)=some (ir_sUnknown F)) (hk:kH P (F vR)=some (ir_sKnown F)) {w:World} {v uv:Value} {fs:List FD} {css uss:List (List Value)} {u:List (Nat×List UInt8)}
  (hv:SlC anyB w v fs.length css.flatten) (hr:jU anyB w fs css) (hlen:fs.length<2147483648) (ht :∀f∈fs,f.tag<2147483648) (hu:SlC anyB w uv u.length uss.flatten) (hur:RepU ok w u uss) :
  Calls P (F yA) [v,uv].toArray w fun e w' =>∃lv ucs,e=.returned lv∧SlC anyB w' lv (kU fs u).length ucs.flatten∧RepU ok w' (kU fs u) ucs∧(lv=.slice none 0 0 ∨∃B n c,lv=.slice (some ⟨B,0,none⟩) n c∧w.heap.size≤B)∧Mod [] w w':=by
 unfold ir_sUnknown at h
 refine kT h hm (by simp) ?_
 clear h
 rw [wpC_seq,kD]
 refine go1 rfl rfl (kE ?_)
 rw [wpC_seq,kD]
 refine go1 (v:=v) rfl (by simp) ?_
 refine qF rfl (vs:=[v]) (by simp) (kC2 hm hk hv hr hlen ht) ?_
 rintro e w1 ⟨rfl,hm1⟩
 refine ⟨_,rfl,go1 rfl rfl (kE ?_)⟩
 rw [wpC_seq,kD]
 refine go1 rfl rfl (kE ?_)
 rw [wpC_seq,wpC_seq,kD]
 have hu1:=hu.keep hm1
 obtain ⟨ub,uc,eu⟩:=hu.shape
 refine go1 (v:=uv) rfl (by simp) ?_
 refine go1 (v:=uv) rfl (by simp) ?_
 refine go1 (v:=.int .i64 u.length) rfl (by simp [eu]) ?_
 refine go1 (v:=.int .i64 ((min u.length 32767:Nat):Int)) rfl (by simp [kJX]) ?_
 obtain ⟨tv,e1,h1⟩:=slice_head (x:=.tmp 13) (y:=.tmp 16) (sz:=2) (k:=min u.length 32767)
  (σ:=updo (updo (updo (updo (updo (updo (updo (updo (updo (qE [v,uv]) (some 4) (.slice none 0 0)) (some 11) v) (some 12) (.int .u32 (qN fs:Nat))) (some 5) (.int .u32 (qN fs:Nat))) (some 6) (.slice none 0 0)) (some 13) uv) (some 14) uv) (some 15) (.int .i64 u.length)) (some 16) (.int .i64 ((min u.length 32767:Nat):Int)))
  (by simp) (by simp) hu1 (by omega)
 rw [kAO _ _ hur.two] at h1
 obtain ⟨tb,tc,etv⟩:=h1.shape
 refine go1 (v:=tv) rfl e1 ?_
 refine go1 (v:=.int .i64 ((min u.length 32767:Nat):Int)) rfl (by simp [etv]) ?_
 refine go1 rfl rfl (kE ?_)
 have hN:w.heap.size≤w1.heap.size:=hm1.size
 have hlo:RepU (fun b=>ok b∧b<w1.heap.size) w1 (u.take (min u.length 32767)) (uss.take (min u.length 32767)):=RepU.take (hur.mod (ok':=fun b=>ok b∧b<w1.heap.size) hm1 (by simp) fun b hb h=>⟨h,by omega⟩) _
 have eu2:u.take (min u.length 32767)=u.take 32767:=by
  by_cases hl:u.length≤32767
  ·rw [Nat.min_eq_left hl,List.take_of_length_le (Nat.le_refl _),List.take_of_length_le hl]
  ·rw [Nat.min_eq_right (by omega)]
 refine rangeLoop (n:=min u.length 32767) (fun j σ w'=>σ 17=tv∧σ 19=.int .i64 (j:Nat)∧σ 18=.int .i64 ((min u.length 32767:Nat):Int)∧σ 5=.int .u32 (qN fs:Nat) ∧∃ucs,UQ ok w1 w' (σ 6) (((u.take 32767).take j).foldl (zS (qN fs)) []) ucs)
  (by omega) (by omega) (fun j σ w h=>⟨h.2.1,h.2.2.1⟩) ?_ ?_ ?_
 ·refine ⟨by simp,by simp,by simp,by simp,[],⟨⟨by simp,.inl ⟨by simp,rfl⟩⟩,by simp;exact .nil,Mod.refl _ _⟩⟩
 ·rintro j σ w2 hj ⟨h17,h19,h18,h5,ucs,hq⟩
  have hjl:j<(u.take 32767).length:=by rw [←eu2];simp;omega
  obtain ⟨t,ht'⟩ :∃t,(u.take 32767)[j]?=some t:=⟨_,List.getElem?_eq_getElem hjl⟩
  obtain ⟨sv,hcs,hsv⟩:=hlo.nth (t:=t) (by rw [eu2];exact ht')
  obtain ⟨a,c,ea,hjn,hcell⟩:=h1.flat (by have:=hur.length;simp;omega) (fun c hc=>hur.two c (List.mem_of_mem_take hc)) hcs
  rw [etv] at ea
  simp only [Value.slice.injEq,true_and] at ea
  obtain ⟨ea,ec⟩:=ea
  subst ea
  have hcell2:=qA hq.mod.below _ _ _ hcell
  have hsv2:SlC (fun b=>ok b∧b<w1.heap.size) w2 sv t.2.length (u8s t.2):=hsv.mod hq.mod (by simp) fun _ _ h=>h
  have hol:(((u.take 32767).take j).foldl (zS (qN fs)) []).length<2147483647:=by
   have:=kBB (qN fs) ((u.take 32767).take j) []
   simp at this;omega
  refine kPV (w0:=w1) (least:=qN fs) (k:=t.1) (b:=t.2) (n:=min u.length 32767) (lv:=σ 6) (a:=a) (c:=tc) (by simp [h5]) (by simp) (by simp [h17,etv]) (by simp [h19]) hj hq hcell2 hsv2 hol fun σ' w' lv' ucs' hfr e6 hq'=>?_
  have key:σ' 19=.int .i64 (j:Nat)∧(upd (upd σ' 83 (.int .i64 ((j+1:Nat):Int))) 19 (.int .i64 ((j+1:Nat):Int))) 17=tv∧(upd (upd σ' 83 (.int .i64 ((j+1:Nat):Int))) 19 (.int .i64 ((j+1:Nat):Int))) 19=.int .i64 ((j+1:Nat):Int) ∧
    (upd (upd σ' 83 (.int .i64 ((j+1:Nat):Int))) 19 (.int .i64 ((j+1:Nat):Int))) 18=.int .i64 ((min u.length 32767:Nat):Int)∧(upd (upd σ' 83 (.int .i64 ((j+1:Nat):Int))) 19 (.int .i64 ((j+1:Nat):Int))) 5=.int .u32 (qN fs:Nat) ∧
    ∃ucs,UQ ok w1 w' ((upd (upd σ' 83 (.int .i64 ((j+1:Nat):Int))) 19 (.int .i64 ((j+1:Nat):Int))) 6) (((u.take 32767).take (j+1)).foldl (zS (qN fs)) []) ucs:=by
   have g :∀s,s<23→s≠6→s≠8→s≠9→s≠10→s≠21→s≠22→s≠20→σ' s=σ s:=fun s s1 s2 s3 s4 s5 s6 s7 s8=>by
    rw [hfr s s1 s2 s3 s4 s5 s6 s7];simp [upd,s8]
   refine ⟨by rw [g 19 (by omega) (by omega) (by omega) (by omega) (by omega) (by omega) (by omega) (by omega)];exact h19,?_,by simp,?_,?_,ucs',?_⟩
   ·simp only [upd];rw [if_neg (by omega),if_neg (by omega),g 17 (by omega) (by omega) (by omega) (by omega) (by omega) (by omega) (by omega) (by omega)];exact h17
   ·simp only [upd];rw [if_neg (by omega),if_neg (by omega),g 18 (by omega) (by omega) (by omega) (by omega) (by omega) (by omega) (by omega) (by omega)];exact h18
   ·simp only [upd];rw [if_neg (by omega),if_neg (by omega),g 5 (by omega) (by omega) (by omega) (by omega) (by omega) (by omega) (by omega) (by omega)];exact h5
   ·rw [yK ht',List.foldl_append]
    simp only [upd,List.foldl_cons,List.foldl_nil]
    rw [if_neg (by omega),if_neg (by omega),e6]
    exact hq'
  exact ⟨by simp only [rngP,if_true];exact key,by simp only [rngP];exact key⟩
 ·rintro σ w2 ⟨h17,h19,h18,h5,ucs,hq⟩
  have e:(u.take 32767).take (min u.length 32767)=u.take 32767:=List.take_of_length_le (by simp;omega)
  rw [e] at hq
  simp only [kF]
  rw [wpC_seq,kD]
  refine go1 (v:=σ 6) rfl (by simp) ?_
  refine go1 (v:=σ 6) rfl (by simp) (kE (ret1 (v:=σ 6) (by simp) ⟨_,ucs,rfl,?_,hq.rep.mod (Mod.refl [] _) (by simp) fun _ _ h=>h.1,?_,hm1.trans hq.mod⟩))
  ·have:=hq.raw.slcN.any
   rw [hq.rep.length.symm] at this
   exact this
  ·rcases hq.raw.sl with ⟨e,-⟩|⟨B,cap,rest,e,-,hB,-⟩
   ·exact .inl e
   ·exact .inr ⟨B,_,_,e,by omega⟩
theorem vS (hm:P.follows .mixedOrders=true) (h:kH P (F yA)=some (ir_sUnknown F)) (hk:kH P (F vR)=some (ir_sKnown F)) {w:World} {v uv:Value} {fs:List FD} {css uss:List (List Value)} {u:List (Nat×List UInt8)}
  (hv:SlC anyB w v fs.length css.flatten) (hr:jU anyB w fs css) (hlen:fs.length<2147483648) (ht :∀f∈fs,f.tag<2147483648) (hu:SlC anyB w uv u.length uss.flatten) (hur:RepU anyB w u uss) :
  Calls P (F yA) [v,uv].toArray w fun e w' =>∃lv ucs,e=.returned lv∧SlC anyB w' lv (kU fs u).length ucs.flatten∧RepU anyB w' (kU fs u) ucs∧Mod [] w w':=by
 refine (kCJ hm h hk hv hr hlen ht hu hur).mono ?_
 rintro e w' ⟨lv,ucs,h1,h2,h3,-,h5⟩
 exact ⟨lv,ucs,h1,h2,h3,h5⟩
end
end Go.Msk
namespace Go.Msk
open Go.RowKit
set_option maxRecDepth 100000
def vF (s:List UInt8):List UInt8:=s.take 16++List.replicate (16-s.length) 0
def valP (flex:Bool) (kind:Int) (part:TR→List UInt8) (null:Bool) (t:TR):List UInt8 :=
 if kind=0 then [UInt8.ofNat (t.n%2).toNat]
 else if kind=7 then vF t.s
 else if kind=8 then zD flex null (if null then [] else kN t.s).length 2++(if null then [] else kN t.s)
 else if kind=9 then zD flex null (if null then [] else kN t.s).length 4++(if null then [] else kN t.s)
 else if kind=10 then part t
 else beI (zJ kind) t.n
def xY (flex:Bool) (kind of kNE:Int) (nl:Bool) (part:TR→List UInt8) (t:TR):List UInt8 :=
 if kind=11 then zD flex nl (if nl then [] else t.l.take 32767).length 4++(if nl then [] else t.l.take 32767).flatMap (valP flex of part false)
 else if kind=10∧kNE≥0 then (if nl then beI 1 (-1) else beI 1 1++part t)
 else valP flex kind part nl t
def y7 (u:List (Nat×List UInt8)):List UInt8:=u.flatMap fun p=>uvE p.1++(uvE (kN p.2).length++kN p.2)
def vM (flex:Bool) (body:List UInt8) (u:List (Nat×List UInt8)):List UInt8:=body++if flex then uvE u.length++y7 u else []
mutual
/-- What is written of a field. -/
def FD.enc (ver:Int) (flex:Bool):FD→TR→List UInt8
 | .mk kind frm to null tag dfl of sub,t=>xY flex kind of null (FD.jR (.mk kind frm to null tag dfl of sub) ver t) (fun x=>vM flex (zI ver flex sub 0 x) (kU sub x.u)) t
/-- What is written of fields in their order. -/
def zI (ver:Int) (flex:Bool):List FD→Nat→TR→List UInt8
 | [],_,_=>[]
 | f::r,i,t=>(if f.tag<0∧f.hasV ver=true then f.enc ver flex (t.at i) else [])++zI ver flex r (i+1) t
end
def yV (ver:Int) (flex:Bool) (fs:List FD) (t:TR):List UInt8:=vM flex (zI ver flex fs 0 t) (kU fs t.u)
mutual
/-- Keys of tags are numbers of 32 bits. -/
def TR.kok:TR→Prop
 | .mk _ _ _ l u=>(∀p∈u,p.1<4294967296)∧TR.kokL l
def TR.kokL:List TR→Prop
 | []=>True
 | t::l=>t.kok∧TR.kokL l
end
theorem TR.kDS :∀{l:List TR},TR.kokL l →∀t∈l,t.kok
 | [],_,t,h=>by simp at h
 | a::l,hl,t,h=>by
   simp only [TR.kokL] at hl
   rcases List.mem_cons.1 h with rfl|h
   ·exact hl.1
   ·exact TR.kDS hl.2 t h
theorem TR.kok.at {t:TR} (h:t.kok) (i:Nat):(t.at i).kok:=by
 cases t with
 | mk n s b l u =>
   simp only [TR.kok] at h
   simp only [TR.at,TR.l]
   cases hi:l[i]? with
   | none=>simp [TR.zero,TR.kok,TR.kokL]
   | some x=>exact TR.kDS h.2 x (List.mem_of_getElem? hi)
theorem FD.enc_eq (ver:Int) (flex:Bool) (kind frm to null tag dfl of:Int) (sub:List FD) (t:TR) :
  (FD.mk kind frm to null tag dfl of sub).enc ver flex t=xY flex kind of null (FD.jR (.mk kind frm to null tag dfl of sub) ver t) (yV ver flex sub) t:=by
 rw [FD.enc];rfl
theorem kBC (ver:Int) (flex:Bool) (f:FD) (r:List FD) (i:Nat) (t:TR) :
  zI ver flex (f::r) i t=(if f.tag<0∧f.hasV ver=true then f.enc ver flex (t.at i) else [])++zI ver flex r (i+1) t:=by
 rw [zI]
theorem DRaw.kKZ {w:World} {B n0:Nat} {l:List UInt8} (hb:Blk w B (u8s l)) (hn:n0≤B):DRaw w n0 (.slice (some ⟨B,0,none⟩) l.length l.length) l :=
 ⟨.inr ⟨B,l.length,[],rfl,Nat.le_refl _,hn,by simpa using hb,by simp⟩⟩
theorem kK0 (n:Int):kM .and .i64 n 1=some (.int .i64 ((n%2:Int))):=by
 simp only [kM]
 congr 2
 have e1:(BitVec.ofInt IntKind.i64.bits n&&&BitVec.ofInt IntKind.i64.bits 1).toNat=(n%2).toNat:=by
  show (BitVec.ofInt 64 n&&&BitVec.ofInt 64 1).toNat=(n%2).toNat
  rw [BitVec.toNat_and]
  have b:(BitVec.ofInt 64 1).toNat=2^1-1:=by decide
  rw [b,Nat.and_two_pow_sub_one_eq_mod,BitVec.toNat_ofInt]
  omega
 rw [e1]
 have h2:0≤n%2:=Int.emod_nonneg _ (by omega)
 have h3:n%2<2:=Int.emod_lt_of_pos _ (by omega)
 rw [xR (by omega)]
 omega
theorem kJ2 {n:Int} (h0:0≤n) (h:n<256):Value.int .u8 (IntKind.u8.wrap n)=.int .u8 ((UInt8.ofNat n.toNat).toNat:Int):=by
 have:=kJV (x:=n.toNat) (by omega)
 rwa [show ((n.toNat:Nat):Int)=n by omega] at this
section
variable {P:Program} {F:Nat→Nat}
attribute [local simp] gOk updo upd ev RK.val? kL kM Addr.kK qE Value.cells undef
def kL3 (P:Program) (F:Nat→Nat) (ver:Int) (flex:Bool) (fs:List FD):Prop :=
 ∀(w:World) (v:Value) (css:List (List Value)) (t:TR) (ts:List Value),SlC anyB w v fs.length css.flatten→jU anyB w fs css→RepT anyB w t ts→t.kok→(yV ver flex fs t).length≤lim →
   Calls P (F kGF) [v,.int .i64 ver,.bool flex,.agg ts.toArray].toArray w (uY w (yV ver flex fs t))
def ValC (P:Program) (F:Nat→Nat) (ver:Int) (flex:Bool) (kind:Int) (sub:List FD):Prop :=
 ∀(w:World) (v:Value) (css:List (List Value)) (t:TR) (ts:List Value) (null:Bool),SlC anyB w v sub.length css.flatten→jU anyB w sub css→RepT anyB w t ts→t.kok→(valP flex kind (yV ver flex sub) null t).length≤lim →
   Calls P (F kFD) [.int .i64 kind,v,.bool null,.int .i64 ver,.bool flex,.agg ts.toArray].toArray w (uY w (valP flex kind (yV ver flex sub) null t))
theorem kNN (hm:P.follows .mixedOrders=true) (hw:kH P (F yR)=some (ir_sWhole F)) (hc:kH P (F yG)=some (ir_sCounted F)) (hu:kH P (F z8)=some (ir_sUvarint F)) (hf:kH P (F yU)=some (ir_sFixed F))
  {w0 w:World} {B:Nat} {n:Int} {s:List UInt8} {tn null flex:Bool} {sv lv uv:Value} {σ:Sl} {Q:Exit→Sl→World→Prop} (hm0:Mod [] w0 w) (hb:Blk w B [.int .i64 n,sv,.bool tn,lv,uv]) (hsv:SlC anyB w sv s.length (u8s s))
  (h11:σ 11=.pointer (some ⟨B,0,none⟩)) (h2:σ 2=.bool null) (h4:σ 4=.bool flex) (hlen:(zD flex null (if null then [] else kN s).length 2++(if null then [] else kN s)).length≤lim)
  (hQ :∀σ' w' v,σ' 12=v→DRaw w' w0.heap.size v (zD flex null (if null then [] else kN s).length 2++(if null then [] else kN s))→Mod [] w0 w'→Q .ret σ' w') :
  wpC P (ir_sValue_1 F) Q σ w:=by
 unfold ir_sValue_1
 have c1:=fun k=>hb.cell k
 rw [wpC_seq,kD]
 refine go1 (v:=.pointer (some ⟨B,1,none⟩)) rfl (by simp [h11]) ?_
 refine go1 (v:=sv) rfl (by simp [c1]) ?_
 refine qF rfl (vs:=[sv]) (by simp) (wQ hm hw hsv) ?_
 rintro e w1 ⟨ew,v1,rfl,hv1⟩
 rw [ew]
 refine ⟨v1,rfl,go1 (v:=v1) rfl (by simp) (kE ?_)⟩
 rw [wpC_seq,wpC_seq,kD]
 refine go1 (v:=.bool null) rfl (by simp [h2]) (kE ?_)
 have key :∀σ1 v2,σ1 4=.bool flex→σ1 2=.bool null→σ1 14=v2→SlC anyB w v2 (if null then [] else kN s).length (u8s (if null then [] else kN s)) →
   wpC P (.seq (.blk [⟨(some 38),.mv (.tmp 4),none⟩,⟨(some 39),.mv (.tmp 2),none⟩,⟨(some 40),.mv (.tmp 14),none⟩,⟨(some 41),.len (.tmp 40),none⟩,
        ⟨(some 42),.call (F yG) [.tmp 38,.tmp 39,.tmp 41,.const (.int .i64 2)],none⟩,⟨(some 43),.mv (.tmp 14),none⟩,⟨(some 44),.append (.tmp 42) (.tmp 43) 1 1,none⟩,⟨(some 12),.mv (.tmp 44),none⟩])
         (.ret)) Q σ1 w:=by
  intro σ1 v2 k4 k2 k14 hv2
  obtain ⟨vb,vc,ev2⟩:=hv2.shape
  have hwl:(kN s).length≤32767:=by simp [kN];omega
  have hsm:(if null=true then [] else kN s).length≤32767:=by cases null<;>simp;exact hwl
  rw [wpC_seq,kD]
  refine go1 (v:=.bool flex) rfl (by simp [k4]) ?_
  refine go1 (v:=.bool null) rfl (by simp [k2]) ?_
  refine go1 (v:=v2) rfl (by simp [k14]) ?_
  refine go1 (v:=.int .i64 ((if null=true then [] else kN s).length:Nat)) rfl (by simp [ev2]) ?_
  refine qF rfl (vs:=[.bool flex,.bool null,.int .i64 ((if null=true then [] else kN s).length:Nat),.int .i64 ((2:Nat):Int)]) (by simp) (kAS hm hc hu hf (by omega) (by omega)) ?_
  rintro e w2 ⟨v3,rfl,hd,hm2⟩
  refine ⟨v3,rfl,go1 (v:=v2) rfl (by simp [k14]) ?_⟩
  refine goC rfl ?_
  refine qR (n0:=w.heap.size) (v:=v3) (by simp) hd hm2.size (k:=if null=true then [] else kN s) (by simpa using (hv2.keep hm2).src) (by simpa using hlen) fun v4 w3 ha=>?_
  refine go1 (v:=v4) rfl (by simp) (kE ?_)
  exact hQ _ w3 v4 (by simp) (ha.raw.low hm0.size) (hm0.trans (ha.mod0 hd hm2))
 cases null with
 | true =>
   rw [kI (by simp),kD]
   refine go1 rfl rfl (kE ?_)
   exact key _ (.slice none 0 0) (by simp [h4]) (by simp [h2]) (by simp) (by simpa [u8s] using SlC.nil)
 | false =>
   rw [kG (by simp),wpC_skip]
   exact key _ v1 (by simp [h4]) (by simp [h2]) (by simp) (by simpa using hv1)
theorem kNO (hm:P.follows .mixedOrders=true) (hw:kH P (F yR)=some (ir_sWhole F)) (hc:kH P (F yG)=some (ir_sCounted F)) (hu:kH P (F z8)=some (ir_sUvarint F)) (hf:kH P (F yU)=some (ir_sFixed F))
  {w0 w:World} {B:Nat} {n:Int} {s:List UInt8} {tn null flex:Bool} {sv lv uv:Value} {σ:Sl} {Q:Exit→Sl→World→Prop} (hm0:Mod [] w0 w) (hb:Blk w B [.int .i64 n,sv,.bool tn,lv,uv]) (hsv:SlC anyB w sv s.length (u8s s))
  (h11:σ 11=.pointer (some ⟨B,0,none⟩)) (h2:σ 2=.bool null) (h4:σ 4=.bool flex) (hlen:(zD flex null (if null then [] else kN s).length 4++(if null then [] else kN s)).length≤lim)
  (hQ :∀σ' w' v,σ' 12=v→DRaw w' w0.heap.size v (zD flex null (if null then [] else kN s).length 4++(if null then [] else kN s))→Mod [] w0 w'→Q .ret σ' w') :
  wpC P (ir_sValue_2 F) Q σ w:=by
 unfold ir_sValue_2
 have c1:=fun k=>hb.cell k
 rw [wpC_seq,kD]
 refine go1 (v:=.pointer (some ⟨B,1,none⟩)) rfl (by simp [h11]) ?_
 refine go1 (v:=sv) rfl (by simp [c1]) ?_
 refine qF rfl (vs:=[sv]) (by simp) (wQ hm hw hsv) ?_
 rintro e w1 ⟨ew,v1,rfl,hv1⟩
 rw [ew]
 refine ⟨v1,rfl,go1 (v:=v1) rfl (by simp) (kE ?_)⟩
 rw [wpC_seq,wpC_seq,kD]
 refine go1 (v:=.bool null) rfl (by simp [h2]) (kE ?_)
 have key :∀σ1 v2,σ1 4=.bool flex→σ1 2=.bool null→σ1 15=v2→SlC anyB w v2 (if null then [] else kN s).length (u8s (if null then [] else kN s)) →
   wpC P (.seq (.blk [⟨(some 51),.mv (.tmp 4),none⟩,⟨(some 52),.mv (.tmp 2),none⟩,⟨(some 53),.mv (.tmp 15),none⟩,⟨(some 54),.len (.tmp 53),none⟩,
        ⟨(some 55),.call (F yG) [.tmp 51,.tmp 52,.tmp 54,.const (.int .i64 4)],none⟩,⟨(some 56),.mv (.tmp 15),none⟩,⟨(some 57),.append (.tmp 55) (.tmp 56) 1 1,none⟩,⟨(some 12),.mv (.tmp 57),none⟩])
         (.ret)) Q σ1 w:=by
  intro σ1 v2 k4 k2 k14 hv2
  obtain ⟨vb,vc,ev2⟩:=hv2.shape
  have hwl:(kN s).length≤32767:=by simp [kN];omega
  have hsm:(if null=true then [] else kN s).length≤32767:=by cases null<;>simp;exact hwl
  rw [wpC_seq,kD]
  refine go1 (v:=.bool flex) rfl (by simp [k4]) ?_
  refine go1 (v:=.bool null) rfl (by simp [k2]) ?_
  refine go1 (v:=v2) rfl (by simp [k14]) ?_
  refine go1 (v:=.int .i64 ((if null=true then [] else kN s).length:Nat)) rfl (by simp [ev2]) ?_
  refine qF rfl (vs:=[.bool flex,.bool null,.int .i64 ((if null=true then [] else kN s).length:Nat),.int .i64 ((4:Nat):Int)]) (by simp) (kAS hm hc hu hf (by omega) (by omega)) ?_
  rintro e w2 ⟨v3,rfl,hd,hm2⟩
  refine ⟨v3,rfl,go1 (v:=v2) rfl (by simp [k14]) ?_⟩
  refine goC rfl ?_
  refine qR (n0:=w.heap.size) (v:=v3) (by simp) hd hm2.size (k:=if null=true then [] else kN s) (by simpa using (hv2.keep hm2).src) (by simpa using hlen) fun v4 w3 ha=>?_
  refine go1 (v:=v4) rfl (by simp) (kE ?_)
  exact hQ _ w3 v4 (by simp) (ha.raw.low hm0.size) (hm0.trans (ha.mod0 hd hm2))
 cases null with
 | true =>
   rw [kI (by simp),kD]
   refine go1 rfl rfl (kE ?_)
   exact key _ (.slice none 0 0) (by simp [h4]) (by simp [h2]) (by simp) (by simpa [u8s] using SlC.nil)
 | false =>
   rw [kG (by simp),wpC_skip]
   exact key _ v1 (by simp [h4]) (by simp [h2]) (by simp) (by simpa using hv1)
theorem kER (s:List UInt8):splice (u8s (List.replicate 16 0)) 0 ((u8s s).take (Nat.min s.length 16*1))=u8s (vF s):=by
 have e:(u8s s).take (Nat.min s.length 16*1)=u8s (s.take 16):=by
  rw [kGB,Nat.mul_one]
  by_cases h:s.length≤16
  ·rw [List.take_of_length_le (by rw [kY];show s.length≤min s.length 16;omega),List.take_of_length_le (by rw [kY];exact h)]
  ·rw [show Nat.min s.length 16=16 from Nat.min_eq_right (by omega)]
 rw [e]
 simp only [splice,List.take_zero,List.nil_append,Nat.zero_add,vF,kLO]
 congr 1
 rw [kY,List.length_take,←kKP]
 congr 1
 rw [List.drop_replicate]
 congr 1
 omega
theorem kFO (hm:P.follows .mixedOrders=true) (h:kH P (F kFD)=some (ir_sValue F)) (hw:kH P (F yR)=some (ir_sWhole F)) (hc:kH P (F yG)=some (ir_sCounted F)) (hu:kH P (F z8)=some (ir_sUvarint F)) (hf:kH P (F yU)=some (ir_sFixed F))
  (hwd:kH P (F kBH)=some (ir_sWidth F)) {ver:Int} {flex:Bool} {kind:Int} {sub:List FD} (hp:kind=10→kL3 P F ver flex sub):ValC P F ver flex kind sub:=by
 intro w v css t ts null hv hr ht hk hlen
 cases ht with
 | @mk n s tn l u sv lv uv tss uss g1 g2 g3 g4 g5 =>
 unfold ir_sValue at h
 refine kT h hm (by simp) ?_
 clear h
 rw [wpC_seq,kD]
 refine wB (v:=.agg #[.int .i64 n,sv,.bool tn,lv,uv]) (by simp) fun w1 hb1 hm1=>?_
 have hb1:Blk w1 w.heap.size [.int .i64 n,sv,.bool tn,lv,uv]:=by simpa using hb1
 have c1:=fun k=>hb1.cell k
 refine go1 rfl rfl (kE ?_)
 rw [wpC_seq,wpC_seq,kD]
 refine go1 (v:=.int .i64 kind) rfl (by simp) (kE ?_)
 rw [wpC_block]
 unfold ir_sValue_4
 rw [wpC_seq,kD]
 refine go1 (v:=.bool (decide (kind=0))) rfl (by simp;by_cases e:kind=0<;>simp [e]) ?_
 refine go1 (v:=.bool (decide (kind=0))) rfl (by simp) (kE ?_)
 by_cases k0:kind=0
 ·rw [kI (by simp [k0]),wpC_seq,kD]
  refine go1 (v:=.pointer (some ⟨w.heap.size,0,none⟩)) rfl (by simp) ?_
  refine go1 (v:=.int .i64 n) rfl (by simp [c1]) ?_
  refine go1 (v:=.int .i64 (n%2)) rfl (by simp only [RK.val?,ev,updo,upd,if_true,kL,decide_true,Bool.or_true,kK0]) ?_
  refine go1 (v:=.int .u8 ((UInt8.ofNat (n%2).toNat).toNat:Int)) rfl (by
   simp only [RK.val?,ev,updo,upd,if_true]
   rw [kJ2 (Int.emod_nonneg _ (by omega)) (by have:=Int.emod_lt_of_pos n (show (0:Int)<2 by omega);omega)]) ?_
  refine goOne (cs:=u8s [UInt8.ofNat (n%2).toNat]) (by simp [u8s]) rfl rfl fun w2 hb2 hm2=>?_
  refine go1 (v:=.slice (some ⟨w1.heap.size,0,none⟩) 1 1) rfl (by simp) (kE ?_)
  repeat first|refine zP ?_|refine j3 ?_
  refine ret1 (v:=.slice (some ⟨w1.heap.size,0,none⟩) 1 1) (by simp) ⟨_,rfl,?_,hm1.trans hm2⟩
  have:=DRaw.kKZ (n0:=w.heap.size) hb2 hm1.size
  simpa [valP,k0,TR.n] using this
 ·rw [kG (by simp [k0]),wpC_seq,kD]
  refine go1 (v:=.bool (decide (kind=7))) rfl (by simp;by_cases e:kind=7<;>simp [e]) ?_
  refine go1 (v:=.bool (decide (kind=7))) rfl (by simp) (kE ?_)
  by_cases k7:kind=7
  ·rw [kI (by simp [k7]),wpC_seq,kD]
   refine kX ?_
   simp only [RK.run,ev]
   refine ⟨by omega,by omega,by omega,by omega,fun T=>?_⟩
   have hb2:=Blk.new w1 (u8s (List.replicate 16 0)) T
   rw [show (zrep (16:Int).toNat [Value.int .u8 0])=u8s (List.replicate 16 0) from rfl]
   have hm2:Mod [] w1 (w1.alloc (.cells (u8s (List.replicate 16 0)).toArray T)):=Mod.alloc _ _ _
   generalize w1.alloc (.cells (u8s (List.replicate 16 0)).toArray T)=w2 at hb2 hm2 ⊢
   refine go1 (v:=.slice (some ⟨w1.heap.size,0,none⟩) 16 16) rfl (by simp) (kE ?_)
   have c2:=fun k=>(hb1.mod hm2 (by simp)).cell k
   rw [wpC_seq,kD]
   refine go1 (v:=.slice (some ⟨w1.heap.size,0,none⟩) 16 16) rfl (by simp) ?_
   refine go1 (v:=.pointer (some ⟨w.heap.size,1,none⟩)) rfl (by simp) ?_
   refine go1 (v:=sv) rfl (by simp [c2]) ?_
   refine kX ?_
   have hs2:SlC anyB w2 sv s.length (u8s s):=g1.keep (hm1.trans hm2)
   simp only [RK.run,ev,updo,upd,if_true,if_false,show (27:Nat)≠29 by decide,show (27:Nat)≠28 by decide,hs2.src]
   have hput:=hb2.put (o:=0) (vs:=(u8s s).take (Nat.min s.length 16*1)) (by simp [kY];omega)
   rw [kER] at hput
   have hmput:Mod [w1.heap.size] w2 (putCells w2 ⟨w1.heap.size,0,none⟩ 0 ((u8s s).take (Nat.min s.length 16*1))):=Mod.put (by simp)
   refine ⟨qL hb2 (by simp [kY];omega) (fun y hy=>by
    have:=List.mem_of_mem_take hy
    simp only [u8s,List.mem_map] at this
    obtain ⟨b,-,rfl⟩:=this;rfl),?_⟩
   refine kE ?_
   rw [wpC_seq,kD]
   refine go1 (v:=.slice (some ⟨w1.heap.size,0,none⟩) 16 16) rfl (by simp) ?_
   refine go1 (v:=.slice (some ⟨w1.heap.size,0,none⟩) 16 16) rfl (by simp) (kE ?_)
   repeat first|refine zP ?_|refine j3 ?_
   have hl16:(vF s).length=16:=by simp [vF];omega
   refine ret1 (v:=.slice (some ⟨w1.heap.size,0,none⟩) 16 16) (by simp) ⟨_,rfl,?_,Mod.drop (b:=w1.heap.size) (S:=[]) ((hm1.trans hm2).nil.trans hmput) hm1.size⟩
   have:=DRaw.kKZ (n0:=w.heap.size) hput hm1.size
   rw [hl16] at this
   simpa [valP,k7,TR.s] using this
  ·rw [kG (by simp [k7])]
   unfold ir_sValue_3
   rw [wpC_seq,kD]
   refine go1 (v:=.bool (decide (kind=8))) rfl (by simp;by_cases e:kind=8<;>simp [e]) ?_
   refine go1 (v:=.bool (decide (kind=8))) rfl (by simp) (kE ?_)
   by_cases k8:kind=8
   ·rw [kI (by simp [k8])]
    refine kNN hm hw hc hu hf (w0:=w) (flex:=flex) (null:=null) (s:=s) hm1 hb1 (g1.keep hm1) (by simp) (by simp) (by simp) (by simpa [valP,k8,TR.s] using hlen) fun σ' w' v' h12 hd hm'=>?_
    simp only [kF,kR]
    refine kJW h12 ⟨v',rfl,?_,hm'⟩
    simpa [valP,k8,TR.s] using hd
   ·rw [kG (by simp [k8]),wpC_seq,kD]
    refine go1 (v:=.bool (decide (kind=9))) rfl (by simp;by_cases e:kind=9<;>simp [e]) ?_
    refine go1 (v:=.bool (decide (kind=9))) rfl (by simp) (kE ?_)
    by_cases k9:kind=9
    ·rw [kI (by simp [k9])]
     refine kNO hm hw hc hu hf (w0:=w) (flex:=flex) (null:=null) (s:=s) hm1 hb1 (g1.keep hm1) (by simp) (by simp) (by simp) (by simpa [valP,k9,TR.s] using hlen) fun σ' w' v' h12 hd hm'=>?_
     simp only [kF,kR]
     refine kJW h12 ⟨v',rfl,?_,hm'⟩
     simpa [valP,k9,TR.s] using hd
    ·rw [kG (by simp [k9]),wpC_seq,kD]
     refine go1 (v:=.bool (decide (kind=10))) rfl (by simp;by_cases e:kind=10<;>simp [e]) ?_
     refine go1 (v:=.bool (decide (kind=10))) rfl (by simp) (kE ?_)
     by_cases k10:kind=10
     ·rw [kI (by simp [k10]),wpC_seq,kD]
      have hrep1:RepT anyB w1 (.mk n s tn l u) [.int .i64 n,sv,.bool tn,lv,uv]:=RepT.keep (.mk g1 g2 g3 g4 g5) hm1
      refine go1 (v:=v) rfl (by simp) ?_
      refine go1 (v:=.int .i64 ver) rfl (by simp) ?_
      refine go1 (v:=.bool flex) rfl (by simp) ?_
      refine go1 (v:=.agg #[.int .i64 n,sv,.bool tn,lv,uv]) rfl (by simp [kJ hb1.cells (n:=5) rfl]) ?_
      refine qF rfl (vs:=[v,.int .i64 ver,.bool flex,.agg #[.int .i64 n,sv,.bool tn,lv,uv]]) (by simp) (hp k10 w1 v css _ _ (hv.keep hm1) (hr.keep hm1) hrep1 hk (by simpa [valP,k10] using hlen)) ?_
      rintro e w2 ⟨v2,rfl,hd,hm2⟩
      refine ⟨v2,rfl,go1 (v:=v2) rfl (by simp) (kE ?_)⟩
      repeat first|refine zP ?_|refine j3 ?_
      refine ret1 (v:=v2) (by simp) ⟨v2,rfl,?_,hm1.trans hm2⟩
      have:=hd.low hm1.size
      simpa [valP,k10] using this
     ·rw [kG (by simp [k10]),wpC_skip]
      simp only [kF,kR]
      rw [wpC_seq]
      simp only [wpC]
      have hmd:Mod [] w1 w1.drew:=Mod.drew _ _
      have c2:=fun k=>(hb1.mod hmd (by simp)).cell k
      refine zM (fun j v w'=>match j with|3=>v=.int .i64 (zJ kind)|4=>DRaw w' w.heap.size v (beI (zJ kind) n)|_=>True) (by
       intro j v w w' h hm
       split at h
       ·exact h
       ·exact h.keep hm
       ·trivial) ?_
      refine bo1 (v:=.pointer (some ⟨w.heap.size,0,none⟩)) rfl (by simp) ?_
      refine bo1 (v:=.int .i64 n) rfl (by simp [c2]) ?_
      refine bo1 (v:=.int .i64 kind) rfl (by simp) ?_
      refine jB (vs:=[.int .i64 kind]) rfl (by simp) (fun w' hm' _=>(kC1 hm hwd).mono ?_) ?_
      ·rintro e w'' ⟨rfl,rfl⟩;exact ⟨_,rfl,Mod.refl _ _,rfl⟩
      rintro v3 ⟨_,rfl⟩
      refine jB (vs:=[.int .i64 n,.int .i64 (zJ kind:Nat)]) rfl (by simp) (fun w' hm' _=>(xS hm hf (kID kind)).mono ?_) ?_
      ·rintro e w'' ⟨v4,rfl,hd,hm4⟩;exact ⟨v4,rfl,hm4,hd.low (Nat.le_trans (hm1.trans hmd).size hm'.size)⟩
      rintro v4 ⟨_,hv4⟩
      refine bo1 (v:=v4) rfl (by simp) ?_
      intro w' hm' hkn
      have hk4:=qY (j:=4) (t:=69) hkn (by simp) rfl rfl rfl rfl
      refine kP ?_
      simp only [kF]
      refine kJW (v:=v4) (by simp) ⟨v4,rfl,?_,(hm1.trans hmd).trans hm'⟩
      have:DRaw w' w.heap.size v4 (beI (zJ kind) n):=by simpa using hk4
      simpa [valP,k0,k7,k8,k9,k10,TR.n] using this
end
end Go.Msk
namespace Go.Msk
open Go.RowKit
set_option maxRecDepth 100000
theorem vG {α:Type} (f:α→List UInt8) (l:List α) (j:Nat):((l.take j).flatMap f).length≤(l.flatMap f).length:=by
 have e:l.flatMap f=(l.take j).flatMap f++(l.drop j).flatMap f:=by rw [←List.flatMap_append,List.take_append_drop]
 rw [e,List.length_append];omega
theorem kAU {α:Type} {f:α→List UInt8} {l:List α} {j:Nat} {x:α} (h:l[j]?=some x):(l.take (j+1)).flatMap f=(l.take j).flatMap f++f x:=by
 rw [yK h,List.flatMap_append];simp
section
variable {P:Program} {F:Nat→Nat}
attribute [local simp] gOk updo upd ev RK.val? kL kM Addr.kK qE Value.cells undef
def kCK (P:Program) (F:Nat→Nat) (ver:Int) (flex:Bool) (f:FD):Prop :=
 ∀(w:World) (cs:List Value) (t:TR) (ts:List Value),RepF anyB w f cs→RepT anyB w t ts→t.kok→(f.enc ver flex t).length≤lim →
   Calls P (F kHT) [.agg cs.toArray,.int .i64 ver,.bool flex,.agg ts.toArray].toArray w (uY w (f.enc ver flex t))
structure FldS (w0:World) (fb tb:Nat) (ver:Int) (flex nl:Bool) (fcs tcs:List Value) (σ:Sl):Prop where
 bf:Blk w0 fb fcs
 bt:Blk w0 tb tcs
 s1:σ 1=.int .i64 ver
 s2:σ 2=.bool flex
 s4:σ 4=.pointer (some ⟨fb,0,none⟩)
 s7:σ 7=.pointer (some ⟨tb,0,none⟩)
 s9:σ 9=.bool nl
theorem FldS.keep {w0:World} {fb tb:Nat} {ver:Int} {flex nl:Bool} {fcs tcs:List Value} {σ σ':Sl} (h:FldS w0 fb tb ver flex nl fcs tcs σ) (hs :∀s,s<10→σ' s=σ s):FldS w0 fb tb ver flex nl fcs tcs σ' :=
 ⟨h.bf,h.bt,(hs 1 (by omega)).trans h.s1,(hs 2 (by omega)).trans h.s2,(hs 4 (by omega)).trans h.s4,(hs 7 (by omega)).trans h.s7,(hs 9 (by omega)).trans h.s9⟩
theorem kL4 {w0 w:World} {fb tb j n c:Nat} {ver:Int} {flex nl:Bool} {kind frm to null tag dfl of:Int} {sub:List FD} {sv:Value} {css:List (List Value)} {tcs xs:List Value} {σ:Sl} {x:TR} {a:Addr} {out:List UInt8} {Q:Exit→Sl→World→Prop}
  (hS:FldS w0 fb tb ver flex nl [.int .i64 kind,.int .i64 frm,.int .i64 to,.int .i64 null,.int .i64 tag,.int .i64 dfl,.int .i64 of,sv] tcs σ) (hm0:Mod [] w0 w) (hsv:SlC anyB w0 sv sub.length css.flatten) (hr:jU anyB w0 sub css) (hx:RepT anyB w0 x xs) (hk:x.kok)
  (h10:σ 10=.slice (some a) n c) (h31:σ 31=.int .i64 (j:Nat)) (hj:j<n) (hcell:kV w0 (a.add (j*5)) 0 5=some xs) (h11:DRaw w w0.heap.size (σ 11) out) (hV:ValC P F ver flex of sub)
  (hlen:(out++valP flex of (yV ver flex sub) false x).length≤lim)
  (hQ :∀σ' w',(∀s,s<32→s≠11→s≠12→σ' s=σ s)→DRaw w' w0.heap.size (σ' 11) (out++valP flex of (yV ver flex sub) false x)→Mod [] w0 w'→Q .normal σ' w'):wpC P (ir_sField_1 F) Q σ w:=by
 unfold ir_sField_1
 rw [wpC_seq,kD]
 refine go1 (v:=.int .i64 (j:Nat)) rfl (by simp [h31]) ?_
 refine go1 (v:=.int .i64 (j:Nat)) rfl (by simp) (kE ?_)
 simp only [wpC]
 have hmd:Mod [] w0 w.drew:=hm0.trans (Mod.drew _ _)
 have c1:=fun k=>(hS.bf.mod hmd (by simp)).cell k
 have hcell1:=qA hmd.below _ _ _ hcell
 have e1:=hS.s1
 have e2:=hS.s2
 have e4:=hS.s4
 refine zM (fun i v w'=>match i with|11=>DRaw w' w0.heap.size v (valP flex of (yV ver flex sub) false x)|_=>True) (by
  intro i v w w' h hm
  split at h
  ·exact h.keep hm
  ·trivial) ?_
 refine bo1 (v:=σ 11) rfl (by simp) ?_
 refine bo1 (v:=.pointer (some ⟨fb,6,none⟩)) rfl (by simp [e4]) ?_
 refine bo1 (v:=.int .i64 of) rfl (by simp [c1]) ?_
 refine bo1 (v:=.pointer (some ⟨fb,7,none⟩)) rfl (by simp [e4]) ?_
 refine bo1 (v:=sv) rfl (by simp [c1]) ?_
 refine bo1 (v:=.int .i64 ver) rfl (by simp [e1]) ?_
 refine bo1 (v:=.bool flex) rfl (by simp [e2]) ?_
 refine bo1 (v:=.slice (some a) n c) rfl (by simp [h10]) ?_
 refine bo1 (v:=.int .i64 (j:Nat)) rfl (by simp) ?_
 refine bo1 (v:=.pointer (some (a.add (j*5)))) rfl (by simp [hj]) ?_
 refine bo1 (v:=.agg xs.toArray) rfl (by simp [hcell1]) ?_
 refine jB (vs:=[.int .i64 of,sv,.bool false,.int .i64 ver,.bool flex,.agg xs.toArray]) rfl (by simp) (fun w' hm' _ =>
  (hV w' sv css x xs false (hsv.keep (hmd.trans hm')) (hr.keep (hmd.trans hm')) (hx.keep (hmd.trans hm')) hk (by simp only [List.length_append] at hlen;omega)).mono ?_) ?_
 ·rintro e w'' ⟨v,rfl,hd,hm2⟩
  exact ⟨v,rfl,hm2,hd.low (hmd.trans hm').size⟩
 rintro v ⟨_,-⟩
 intro w' hm' hkn
 have hk11:=qY (j:=11) (t:=45) hkn (by simp) rfl rfl rfl rfl
 have hv:DRaw w' w0.heap.size v (valP flex of (yV ver flex sub) false x):=by simpa using hk11
 have hmw:=hmd.trans hm'
 have hdr:DRaw w' w0.heap.size (σ 11) out:=h11.keep ((Mod.drew _ _).trans hm')
 refine goC rfl ?_
 refine qR (n0:=w0.heap.size) (v:=σ 11) (by simp) hdr hmw.size (k:=valP flex of (yV ver flex sub) false x) (by simpa using hv.src) (by simpa using hlen) fun v' w2 ha=>?_
 refine go1 (v:=v') rfl (by simp) (kP ?_)
 refine hQ _ w2 (fun s h1 h2 h3=>?_) (by simpa using ha.raw) (ha.mod0 hdr hmw)
 simp only [updo,upd]
 repeat rw [if_neg (by omega)]
theorem kL5 (hm:P.follows .mixedOrders=true) (ht:kH P (F uQ)=some (ir_sThings F)) (hc:kH P (F yG)=some (ir_sCounted F)) (hu:kH P (F z8)=some (ir_sUvarint F)) (hf:kH P (F yU)=some (ir_sFixed F))
  {w0 w:World} {fb tb:Nat} {ver:Int} {flex nl:Bool} {kind frm to null tag dfl of:Int} {sub:List FD} {sv tsv lv uv:Value} {css tss:List (List Value)} {tn:Int} {tb':Bool} {l:List TR} {σ:Sl} {Q:Exit→Sl→World→Prop}
  (hS:FldS w0 fb tb ver flex nl [.int .i64 kind,.int .i64 frm,.int .i64 to,.int .i64 null,.int .i64 tag,.int .i64 dfl,.int .i64 of,sv] [.int .i64 tn,tsv,.bool tb',lv,uv] σ) (hm0:Mod [] w0 w) (hsv:SlC anyB w0 sv sub.length css.flatten) (hr:jU anyB w0 sub css)
  (hlv:SlC anyB w0 lv l.length tss.flatten) (hl:jN anyB w0 l tss) (hk:TR.kokL l) (hV:ValC P F ver flex of sub)
  (hlen:(zD flex nl (if nl then [] else l.take 32767).length 4++(if nl then [] else l.take 32767).flatMap (valP flex of (yV ver flex sub) false)).length≤lim)
  (hQ :∀σ' w' v,σ' 8=v→DRaw w' w0.heap.size v (zD flex nl (if nl then [] else l.take 32767).length 4++(if nl then [] else l.take 32767).flatMap (valP flex of (yV ver flex sub) false))→Mod [] w0 w'→Q .ret σ' w'):wpC P (ir_sField_2 F) Q σ w:=by
 unfold ir_sField_2
 have c1:=fun k=>(hS.bt.mod hm0 (by simp)).cell k
 have e7:=hS.s7
 rw [wpC_seq,kD]
 refine go1 (v:=.pointer (some ⟨tb,3,none⟩)) rfl (by simp [e7]) ?_
 refine go1 (v:=lv) rfl (by simp [c1]) ?_
 refine qF rfl (vs:=[lv]) (by simp) (kEM hm ht (hlv.keep hm0) (hl.keep hm0)) ?_
 rintro e w1 ⟨ew,v1,rfl,hv1,hl1⟩
 rw [ew]
 refine ⟨v1,rfl,go1 (v:=v1) rfl (by simp) (kE ?_)⟩
 rw [wpC_seq,wpC_seq,kD]
 have e9:=hS.s9
 refine go1 (v:=.bool nl) rfl (by simp [e9]) (kE ?_)
 have key :∀σ1 v2 xss,(∀s,s<10→σ1 s=σ s)→σ1 10=v2→SlC anyB w v2 (if nl then [] else l.take 32767).length xss.flatten→jN anyB w (if nl then [] else l.take 32767) xss →
   wpC P (.seq (.blk [⟨(some (24)),.mv (.tmp 2),none⟩,⟨(some (25)),.mv (.tmp 9),none⟩,⟨(some (26)),.mv (.tmp 10),none⟩,⟨(some (27)),.len (.tmp 26),none⟩,
       ⟨(some (28)),.call (F yG) [.tmp 24,.tmp 25,.tmp 27,.const (.int .i64 4)],none⟩,⟨(some (11)),.mv (.tmp 28),none⟩])
   (.seq (.seq (.blk [⟨(some (29)),.mv (.tmp 10),none⟩,⟨(some (30)),.len (.tmp 29),none⟩,⟨(some (31)),.mv (.const (.int .i64 0)),none⟩])
    (.block 0 (.loop (.seq (.blk [⟨(some (32)),.bin .lss (.tmp 31) (.tmp 30),none⟩])
      (.seq (.cond (.tmp 32)
        (.skip)
        (.exit 0))
      (.seq (.block 1 (ir_sField_1 F))
      (.blk [⟨(some (47)),.bin .add (.tmp 31) (.const (.int .i64 1)),none⟩,
       ⟨(some (31)),.mv (.tmp 47),none⟩])))))))
   (.seq (.blk [⟨(some (48)),.mv (.tmp 11),none⟩,
     ⟨(some (8)),.mv (.tmp 48),none⟩])
   (.ret)))) Q σ1 w:=by
  intro σ1 v2 xss hfr k10 hv2 hx2
  have hkx:TR.kokL (if nl then [] else l.take 32767):=by
   cases nl with
   | true=>simp [TR.kokL]
   | false =>
     simp only [Bool.false_eq_true,if_false]
     have :∀(l:List TR) (k:Nat),TR.kokL l→TR.kokL (l.take k):=by
      intro l
      induction l with
      | nil=>intro k _;simp [TR.kokL]
      | cons a l ih =>
        intro k h
        cases k with
        | zero=>simp [TR.kokL]
        | succ k=>simp only [List.take_succ_cons,TR.kokL] at h ⊢;exact ⟨h.1,ih k h.2⟩
     exact this l 32767 hk
  generalize hL:(if nl=true then [] else l.take 32767)=L at *
  have hLl:L.length≤32767:=by rw [←hL];cases nl<;>simp;omega
  obtain ⟨vb,vc,ev2⟩:=hv2.shape
  rw [wpC_seq,kD]
  refine go1 (v:=.bool flex) rfl (by simp [hfr,hS.s2]) ?_
  refine go1 (v:=.bool nl) rfl (by simp [hfr,hS.s9]) ?_
  refine go1 (v:=v2) rfl (by simp [k10]) ?_
  refine go1 (v:=.int .i64 (L.length:Nat)) rfl (by simp [ev2]) ?_
  refine qF rfl (vs:=[.bool flex,.bool nl,.int .i64 (L.length:Nat),.int .i64 ((4:Nat):Int)]) (by simp) (kAS hm hc hu hf (by omega) (by omega)) ?_
  rintro e w2 ⟨v3,rfl,hd,hm2⟩
  have hm02:=hm0.trans hm2
  refine ⟨v3,rfl,go1 (v:=v3) rfl (by simp) (kE ?_)⟩
  rw [wpC_seq,wpC_seq,kD]
  refine go1 (v:=v2) rfl (by simp [k10]) ?_
  refine go1 (v:=.int .i64 (L.length:Nat)) rfl (by simp [ev2]) ?_
  refine go1 rfl rfl (kE ?_)
  -- the facts of the list hold from the world before on
  refine rangeLoop (n:=L.length) (fun j σ' w'=>σ' 10=v2∧σ' 31=.int .i64 (j:Nat)∧σ' 30=.int .i64 (L.length:Nat)∧(∀s,s<10→σ' s=σ s)∧DRaw w' w.heap.size (σ' 11) (zD flex nl L.length 4++(L.take j).flatMap (valP flex of (yV ver flex sub) false))∧Mod [] w w')
   (by omega) (by omega) (fun j σ w h=>⟨h.2.1,h.2.2.1⟩) ?_ ?_ ?_
  ·refine ⟨by simp [k10],by simp,by simp,fun s hs=>?_,by simpa using hd,hm2⟩
   rw [←hfr s hs]
   simp only [updo,upd]
   repeat rw [if_neg (by omega)]
  ·rintro j σ2 w3 hj ⟨q10,q31,q30,qfr,qd,qm⟩
   obtain ⟨x,hx⟩ :∃x,L[j]?=some x:=⟨_,List.getElem?_eq_getElem hj⟩
   obtain ⟨xs,hxs,hxr⟩:=hx2.nth hx
   obtain ⟨a,c,ea,hjn,hcell⟩:=hv2.flat hx2.length hx2.five hxs
   have hxm:=List.mem_of_getElem? hx
   have hlj:(zD flex nl L.length 4++(L.take j).flatMap (valP flex of (yV ver flex sub) false)++valP flex of (yV ver flex sub) false x).length≤lim:=by
    have:=vG (valP flex of (yV ver flex sub) false) L (j+1)
    rw [kAU hx] at this
    simp only [List.length_append] at this hlen ⊢
    omega
   have hSw:FldS w fb tb ver flex nl [.int .i64 kind,.int .i64 frm,.int .i64 to,.int .i64 null,.int .i64 tag,.int .i64 dfl,.int .i64 of,sv] [.int .i64 tn,tsv,.bool tb',lv,uv] (upd σ2 32 (.bool true)) :=
    FldS.keep ⟨hS.bf.mod hm0 (by simp),hS.bt.mod hm0 (by simp),hS.s1,hS.s2,hS.s4,hS.s7,hS.s9⟩ fun s hs=>by rw [upd_ne _ _ (by omega)];exact qfr s hs
   refine kL4 (w0:=w) (n:=L.length) (c:=c) (a:=a) (x:=x) (xs:=xs) hSw qm (hsv.keep hm0) (hr.keep hm0) hxr (TR.kDS hkx x hxm) (by simp [q10,ea]) (by simp [q31]) hj hcell (by simpa using qd) hV hlj fun σ' w' hf' hd' hm'=>?_
   simp only [rngP]
   have g :∀s,s<32→s≠11→s≠12→σ' s=σ2 s:=fun s h1 h2 h3=>by rw [hf' s h1 h2 h3,upd_ne _ _ (by omega)]
   refine ⟨by rw [g 31 (by omega) (by omega) (by omega)];exact q31,?_,by simp,?_,fun s hs=>?_,?_,hm'⟩
   ·simp only [upd];rw [if_neg (by omega),if_neg (by omega),g 10 (by omega) (by omega) (by omega)];exact q10
   ·simp only [upd];rw [if_neg (by omega),if_neg (by omega),g 30 (by omega) (by omega) (by omega)];exact q30
   ·simp only [upd];rw [if_neg (by omega),if_neg (by omega),g s (by omega) (by omega) (by omega)];exact qfr s hs
   ·rw [kAU hx,←List.append_assoc]
    simpa [upd] using hd'
  ·rintro σ2 w3 ⟨q10,q31,q30,qfr,qd,qm⟩
   simp only [kF]
   rw [wpC_seq,kD]
   refine go1 (v:=σ2 11) rfl (by simp) ?_
   refine go1 (v:=σ2 11) rfl (by simp) (kE ?_)
   refine hQ _ w3 (σ2 11) (by simp) ?_ (hm0.trans qm)
   rw [List.take_of_length_le (Nat.le_refl _)] at qd
   exact qd.low hm0.size
 cases nl with
 | true =>
   rw [kI (by simp),kD]
   refine go1 rfl rfl (kE ?_)
   exact key _ (.slice none 0 0) [] (fun s hs=>by simp only [updo,upd];repeat rw [if_neg (by omega)]) (by simp) (by simpa using SlC.nil) (by simpa using jN.nil)
 | false =>
   rw [kG (by simp),wpC_skip]
   exact key _ v1 (tss.take 32767) (fun s hs=>by simp only [updo,upd];repeat rw [if_neg (by omega)]) (by simp) (by simpa using hv1) (by simpa using hl1)
theorem kFP (hm:P.follows .mixedOrders=true) (h:kH P (F kHT)=some (ir_sField F)) (hn:kH P (F kJK)=some (ir_sNull F)) (ht:kH P (F uQ)=some (ir_sThings F)) (hc:kH P (F yG)=some (ir_sCounted F)) (hu:kH P (F z8)=some (ir_sUvarint F)) (hf:kH P (F yU)=some (ir_sFixed F))
  {ver:Int} {flex:Bool} {kind frm to null tag dfl of:Int} {sub:List FD} (hV :∀k,ValC P F ver flex k sub) (hp:kL3 P F ver flex sub):kCK P F ver flex (.mk kind frm to null tag dfl of sub):=by
 intro w cs t ts hrf hrt hk hlen
 rw [FD.enc_eq] at hlen ⊢
 generalize hnl:FD.jR (.mk kind frm to null tag dfl of sub) ver t=nl at hlen ⊢
 cases hrf with
 | @mk _ _ _ _ _ _ _ _ sv css f1 f2 =>
 cases hrt with
 | @mk n s tn l u tsv lv uv tss uss g1 g2 g3 g4 g5 =>
 unfold ir_sField at h
 refine kT h hm (by simp) ?_
 clear h
 rw [wpC_seq,kD]
 refine wB (v:=.agg #[.int .i64 kind,.int .i64 frm,.int .i64 to,.int .i64 null,.int .i64 tag,.int .i64 dfl,.int .i64 of,sv]) (by simp) fun w1 hb1 hm1=>?_
 refine wB (v:=.agg #[.int .i64 n,tsv,.bool tn,lv,uv]) (by simp) fun w2 hb2 hm2=>?_
 have hm02:=hm1.trans hm2
 have hb1:Blk w2 w.heap.size [.int .i64 kind,.int .i64 frm,.int .i64 to,.int .i64 null,.int .i64 tag,.int .i64 dfl,.int .i64 of,sv]:=Blk.mod (by simpa using hb1) hm2 (by simp)
 have hb2:Blk w2 w1.heap.size [.int .i64 n,tsv,.bool tn,lv,uv]:=by simpa using hb2
 have rF:RepF anyB w2 (.mk kind frm to null tag dfl of sub) [.int .i64 kind,.int .i64 frm,.int .i64 to,.int .i64 null,.int .i64 tag,.int .i64 dfl,.int .i64 of,sv]:=RepF.keep (.mk f1 f2) hm02
 have rT:RepT anyB w2 (.mk n s tn l u) [.int .i64 n,tsv,.bool tn,lv,uv]:=RepT.keep (.mk g1 g2 g3 g4 g5) hm02
 refine go1 rfl rfl (kE ?_)
 rw [wpC_seq,kD]
 refine go1 (v:=.agg #[.int .i64 kind,.int .i64 frm,.int .i64 to,.int .i64 null,.int .i64 tag,.int .i64 dfl,.int .i64 of,sv]) rfl (by simp [kJ hb1.cells (n:=8) rfl]) ?_
 refine go1 (v:=.int .i64 ver) rfl (by simp) ?_
 refine go1 (v:=.agg #[.int .i64 n,tsv,.bool tn,lv,uv]) rfl (by simp [kJ hb2.cells (n:=5) rfl]) ?_
 refine qF rfl (vs:=[.agg #[.int .i64 kind,.int .i64 frm,.int .i64 to,.int .i64 null,.int .i64 tag,.int .i64 dfl,.int .i64 of,sv],.int .i64 ver,.agg #[.int .i64 n,tsv,.bool tn,lv,uv]]) (by simp) (kIE hm hn rF rT) ?_
 rintro e w3 ⟨rfl,hm3⟩
 refine ⟨_,rfl,?_⟩
 rw [hnl]
 refine go1 (v:=.bool nl) rfl (by simp) (kE ?_)
 have hm03:=hm02.trans hm3
 have hb1:=hb1.mod hm3 (by simp)
 have hb2:=hb2.mod hm3 (by simp)
 have c1:=fun k=>hb1.cell k
 have hk':TR.kokL l:=by simp only [TR.kok] at hk;exact hk.2
 rw [wpC_seq,wpC_seq,kD]
 refine go1 (v:=.pointer (some ⟨w.heap.size,0,none⟩)) rfl (by simp) ?_
 refine go1 (v:=.int .i64 kind) rfl (by simp [c1]) ?_
 refine go1 (v:=.bool (decide (kind=11))) rfl (by simp;by_cases e:kind=11<;>simp [e]) (kE ?_)
 by_cases k11:kind=11
 ·rw [kI (by simp [k11])]
  have e0:xY flex kind of null nl (yV ver flex sub) (.mk n s tn l u)=zD flex nl (if nl then [] else l.take 32767).length 4++(if nl then [] else l.take 32767).flatMap (valP flex of (yV ver flex sub) false):=by
   simp [xY,k11,TR.l]
  rw [e0] at hlen ⊢
  refine kL5 hm ht hc hu hf (w0:=w3) (fb:=w.heap.size) (tb:=w1.heap.size) (ver:=ver) (flex:=flex) (nl:=nl) (kind:=kind) (frm:=frm) (to:=to) (null:=null) (tag:=tag) (dfl:=dfl) (of:=of) (sub:=sub) (sv:=sv) (tn:=n) (tsv:=tsv) (tb':=tn) (lv:=lv) (uv:=uv) (l:=l)
   ⟨hb1,hb2,by simp,by simp,by simp,by simp,by simp⟩ (Mod.refl _ _) (f1.keep hm03) (f2.keep hm03) (g2.keep hm03) (g3.keep hm03) hk' (hV of) hlen fun σ' w' v h8 hd hm'=>?_
  simp only [kF]
  exact kJW h8 ⟨v,rfl,hd.low hm03.size,hm03.trans hm'⟩
 ·rw [kG (by simp [k11]),wpC_skip]
  simp only [kF]
  rw [wpC_seq,wpC_seq,kD]
  refine go1 (v:=.pointer (some ⟨w.heap.size,0,none⟩)) rfl (by simp) ?_
  refine go1 (v:=.int .i64 kind) rfl (by simp [c1]) ?_
  refine go1 (v:=.bool (decide (kind=10))) rfl (by simp;by_cases e:kind=10<;>simp [e]) ?_
  refine go1 (v:=.bool (decide (kind=10))) rfl (by simp) ?_
  have last :∀σ1,(∀s,s<10→σ1 s=upd (upd (upd (upd (upd (upd (upd (qE [.int .i64 kind,.int .i64 ver,.bool flex]) 0 undef) 1 (.int .i64 ver)) 2 (.bool flex)) 4 (.pointer (some ⟨w.heap.size,0,none⟩))) 7 (.pointer (some ⟨w1.heap.size,0,none⟩))) 9 (.bool nl)) 0 undef s∨s=0∨s=3∨s=5∨s=6∨s=8) →¬(kind=10∧null≥0) →
    wpC P (.seq (.blk [⟨(some (67)),.fad (.tmp 4) 0,none⟩,
   ⟨(some (68)),.ld (.tmp 67),none⟩,
   ⟨(some (69)),.fad (.tmp 4) 7,none⟩,
   ⟨(some (70)),.ld (.tmp 69),none⟩,
   ⟨(some (71)),.mv (.tmp 9),none⟩,
   ⟨(some (72)),.mv (.tmp 1),none⟩,
   ⟨(some (73)),.mv (.tmp 2),none⟩,
   ⟨(some (74)),.ldn (.tmp 7) 5,none⟩,
   ⟨(some (75)),.call (F kFD) [.tmp 68,.tmp 70,.tmp 71,.tmp 72,.tmp 73,.tmp 74],none⟩,
   ⟨(some (8)),.mv (.tmp 75),none⟩])
 (.ret)) (postC [.tmp 8] (uY w (xY flex kind of null nl (yV ver flex sub) (.mk n s tn l u)))) σ1 w3:=by
   intro σ1 hs hno
   have s1:σ1 1=.int .i64 ver:=by rcases hs 1 (by omega) with h|h;exact h;omega
   have s2:σ1 2=.bool flex:=by rcases hs 2 (by omega) with h|h;exact h;omega
   have s4:σ1 4=.pointer (some ⟨w.heap.size,0,none⟩):=by rcases hs 4 (by omega) with h|h;exact h;omega
   have s7:σ1 7=.pointer (some ⟨w1.heap.size,0,none⟩):=by rcases hs 7 (by omega) with h|h;exact h;omega
   have s9:σ1 9=.bool nl:=by rcases hs 9 (by omega) with h|h;exact h;omega
   have e0:xY flex kind of null nl (yV ver flex sub) (.mk n s tn l u)=valP flex kind (yV ver flex sub) nl (.mk n s tn l u):=by
    simp only [xY];rw [if_neg k11,if_neg hno]
   rw [e0] at hlen ⊢
   rw [wpC_seq,kD]
   refine go1 (v:=.pointer (some ⟨w.heap.size,0,none⟩)) rfl (by simp [s4]) ?_
   refine go1 (v:=.int .i64 kind) rfl (by simp [c1]) ?_
   refine go1 (v:=.pointer (some ⟨w.heap.size,7,none⟩)) rfl (by simp [s4]) ?_
   refine go1 (v:=sv) rfl (by simp [c1]) ?_
   refine go1 (v:=.bool nl) rfl (by simp [s9]) ?_
   refine go1 (v:=.int .i64 ver) rfl (by simp [s1]) ?_
   refine go1 (v:=.bool flex) rfl (by simp [s2]) ?_
   refine go1 (v:=.agg #[.int .i64 n,tsv,.bool tn,lv,uv]) rfl (by simp [s7,kJ hb2.cells (n:=5) rfl]) ?_
   refine qF rfl (vs:=[.int .i64 kind,sv,.bool nl,.int .i64 ver,.bool flex,.agg #[.int .i64 n,tsv,.bool tn,lv,uv]]) (by simp) (hV kind w3 sv css _ _ nl (f1.keep hm03) (f2.keep hm03) (rT.keep hm3) hk hlen) ?_
   rintro e w4 ⟨v,rfl,hd,hm4⟩
   refine ⟨v,rfl,go1 (v:=v) rfl (by simp) (kE (ret1 (v:=v) (by simp) ⟨v,rfl,hd.low hm03.size,hm03.trans hm4⟩))⟩
  by_cases k10:kind=10
  ·refine go1 (v:=.pointer (some ⟨w.heap.size,3,none⟩)) (by simp [k10]) (by simp) ?_
   refine go1 (v:=.int .i64 null) (by simp [k10]) (by simp [c1]) ?_
   refine go1 (v:=.bool (decide (null≥0))) (by simp [k10]) (by simp) ?_
   refine go1 (v:=.bool (decide (null≥0))) rfl (by simp [k10]) (kE ?_)
   by_cases n0:null≥0
   ·rw [kI (by simp [n0])]
    have e0:xY flex kind of null nl (yV ver flex sub) (.mk n s tn l u)=if nl then beI 1 (-1) else beI 1 1++yV ver flex sub (.mk n s tn l u):=by
     simp only [xY];rw [if_neg k11,if_pos ⟨k10,n0⟩]
    rw [e0] at hlen ⊢
    unfold ir_sField_3
    rw [wpC_seq,wpC_seq,kD]
    refine go1 (v:=.bool nl) rfl (by simp) (kE ?_)
    cases nl with
    | true =>
      rw [kI (by simp),wpC_seq,kD]
      refine qF rfl (vs:=[.int .i64 (-1),.int .i64 ((1:Nat):Int)]) (by simp) (xS hm hf (by omega)) ?_
      rintro e w4 ⟨v,rfl,hd,hm4⟩
      refine ⟨v,rfl,go1 (v:=v) rfl (by simp) (kE ?_)⟩
      repeat first|refine zP ?_|refine j3 ?_
      exact ret1 (v:=v) (by simp) ⟨v,rfl,hd.low hm03.size,hm03.trans hm4⟩
    | false =>
      simp only [Bool.false_eq_true,if_false] at hlen ⊢
      rw [kG (by simp),wpC_skip]
      simp only [kF]
      rw [wpC_seq]
      simp only [wpC]
      have hmd:Mod [] w3 w3.drew:=Mod.drew _ _
      have hm0d:=hm03.trans hmd
      have c2:=fun k=>(hb1.mod hmd (by simp)).cell k
      have hb2d:=hb2.mod hmd (by simp)
      refine zM (fun i v w'=>match i with|0=>DRaw w' w.heap.size v (beI 1 1)|6=>DRaw w' w.heap.size v (yV ver flex sub (.mk n s tn l u))|_=>True) (by
       intro i v w w' h hm
       split at h
       ·exact h.keep hm
       ·exact h.keep hm
       ·trivial) ?_
      refine jB (vs:=[.int .i64 1,.int .i64 ((1:Nat):Int)]) rfl (by simp) (fun w' hm' _=>(xS hm hf (by omega)).mono ?_) ?_
      ·rintro e w'' ⟨v,rfl,hd,hm2⟩;exact ⟨v,rfl,hm2,hd.low (hm0d.trans hm').size⟩
      rintro v0 -
      refine bo1 (v:=.pointer (some ⟨w.heap.size,7,none⟩)) rfl (by simp) ?_
      refine bo1 (v:=sv) rfl (by simp [c2]) ?_
      refine bo1 (v:=.int .i64 ver) rfl (by simp) ?_
      refine bo1 (v:=.bool flex) rfl (by simp) ?_
      refine bo1 (v:=.agg #[.int .i64 n,tsv,.bool tn,lv,uv]) rfl (by simp [kJ hb2d.cells (n:=5) rfl]) ?_
      refine jB (vs:=[sv,.int .i64 ver,.bool flex,.agg #[.int .i64 n,tsv,.bool tn,lv,uv]]) rfl (by simp) (fun w' hm' _=>(hp w' sv css _ _ (f1.keep (hm0d.trans hm')) (f2.keep (hm0d.trans hm')) ((rT.keep hm3).keep (hmd.trans hm')) hk (by simp only [List.length_append] at hlen;omega)).mono ?_) ?_
      ·rintro e w'' ⟨v,rfl,hd,hm2⟩;exact ⟨v,rfl,hm2,hd.low (hm0d.trans hm').size⟩
      rintro v6 -
      intro w' hm' hkn
      have k0:=qY (j:=0) (t:=59) hkn (by simp) rfl rfl rfl rfl
      have k6:=qY (j:=6) (t:=65) hkn (by simp) rfl rfl rfl rfl
      have d0:DRaw w' w.heap.size v0 (beI 1 1):=by simpa using k0
      have d6:DRaw w' w.heap.size v6 (yV ver flex sub (.mk n s tn l u)):=by simpa using k6
      refine goC rfl ?_
      refine qR (n0:=w.heap.size) (v:=v0) (by simp) d0 (hm0d.trans hm').size (k:=yV ver flex sub (.mk n s tn l u)) (by simpa using d6.src) (by simpa using hlen) fun v' w5 ha=>?_
      refine go1 (v:=v') rfl (by simp) (kP ?_)
      simp only [kF]
      exact kJW (v:=v') (by simp) ⟨v',rfl,ha.raw,ha.mod0 d0 (hm0d.trans hm')⟩
   ·rw [kG (by simp [n0]),wpC_skip]
    simp only [kF]
    exact last _ (by intro s hs;rcases (by omega:s=0∨s=1∨s=2∨s=3∨s=4∨s=5∨s=6∨s=7∨s=8∨s=9) with rfl|rfl|rfl|rfl|rfl|rfl|rfl|rfl|rfl|rfl<;>simp) (fun h=>n0 h.2)
  ·iterate 3 (refine go0 (by simp [k10]) ?_)
   refine go1 (v:=.bool false) rfl (by simp [k10]) (kE ?_)
   rw [kG (by simp),wpC_skip]
   simp only [kF]
   exact last _ (by intro s hs;rcases (by omega:s=0∨s=1∨s=2∨s=3∨s=4∨s=5∨s=6∨s=7∨s=8∨s=9) with rfl|rfl|rfl|rfl|rfl|rfl|rfl|rfl|rfl|rfl<;>simp) (fun h=>k10 h.1)
end
end Go.Msk
