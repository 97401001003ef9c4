/- A small language of resolved operations, and what the generic and the generated functions do in it (part 7). -/
import Derived.Test.YtfoljfjkifiboaaGreatDoorFf
namespace Go.Msk
open Go.RowKit
set_option maxRecDepth 100000
section
variable {P:Program} {F:Nat→Nat}
def kE7 (l:List UInt8) (e:Ending):Prop :=
 match uvR 5 l with
 | some (v,k)=>e=.returned (.tuple #[.int .u32 v,.int .i64 k])
 | none =>∃n:Int,n≤0∧e=.returned (.tuple #[.int .u32 0,.int .i64 n])
theorem kKT {w:World} {σ:Sl} {n:Int} {Q:Exit→Sl→World→Prop} (h5:σ 5=.int .i64 n) (hQ :∀σ',σ' 2=.int .u32 0→σ' 3=.int .i64 n→Q .ret σ' w) :
 wpC P (.seq .skip (.seq (.blk [⟨some 86,.mv (.tmp 5),none⟩,⟨some 2,.mv (.const (.int .u32 0)),none⟩,⟨some 3,.mv (.tmp 86),none⟩]) .ret)) Q σ w:=by
 rw [wpC_seq,wpC_skip]
 simp only [kF]
 rw [wpC_seq,kD]
 refine kC (v:=.int .i64 n) (congrArg some h5) ?_
 refine kC (v:=.int .u32 0) rfl ?_
 refine kC (v:=.int .i64 n) rfl ?_
 refine kE ?_
 exact hQ _ rfl rfl
theorem kM6 {l:List UInt8} {w:World} {σ:Sl} {n:Int} (hn:n≤0) (h2:σ 2=.int .u32 0) (h3:σ 3=.int .i64 n) (hr:uvR 5 l=none):postC [.tmp 2,.tmp 3] (fun e w'=>kE7 l e∧w'=w) .ret σ w:=by
 simp only [postC,rvals,List.mapM_cons,List.mapM_nil,RV.val,h2,h3,Option.bind_eq_bind,Option.bind_some,Option.pure_def,tup]
 refine ⟨?_,trivial⟩
 unfold kE7;rw [hr];exact ⟨n,hn,rfl⟩
theorem uv_fail {l:List UInt8} {w:World} {σ:Sl} {n:Int} (hn:n≤0) (h5:σ 5=.int .i64 n) (hr:uvR 5 l=none) :
 wpC P (.seq .skip (.seq (.blk [⟨some 86,.mv (.tmp 5),none⟩,⟨some 2,.mv (.const (.int .u32 0)),none⟩,⟨some 3,.mv (.tmp 86),none⟩]) .ret)) (kD6 (postC [.tmp 2,.tmp 3] fun e w'=>kE7 l e∧w'=w)) σ w :=
 kKT h5 fun _ e2 e3=>kM6 hn e2 e3 hr
def UvQ (P:Program) (l:List UInt8) (w:World):Exit→Sl→World→Prop :=
 jumpC 0 (wpC P (.seq .skip (.seq (.blk [⟨some 86,.mv (.tmp 5),none⟩,⟨some 2,.mv (.const (.int .u32 0)),none⟩,⟨some 3,.mv (.tmp 86),none⟩]) .ret)) (kD6 (postC [.tmp 2,.tmp 3] fun e w'=>kE7 l e∧w'=w))) (postC [.tmp 2,.tmp 3] fun e w'=>kE7 l e∧w'=w)
theorem kEF {l:List UInt8} {w:World} {σ:Sl} {n:Int} (hn:n≤0) (h5:σ 5=.int .i64 n) (hr:uvR 5 l=none):UvQ P l w (.goto 0) σ w:=⟨rfl,uv_fail hn h5 hr⟩
theorem kPC {l:List UInt8} {w:World} {σ:Sl} {a:IC} (h:wpC P a (UvQ P l w) σ w) :
 wpC P (.scopeTo a 0 (.seq .skip (.seq (.blk [⟨some 86,.mv (.tmp 5),none⟩,⟨some 2,.mv (.const (.int .u32 0)),none⟩,⟨some 3,.mv (.tmp 86),none⟩]) .ret))) (postC [.tmp 2,.tmp 3] fun e w'=>kE7 l e∧w'=w) σ w:=h
theorem kHY {l:List UInt8} {w:World} {σ:Sl} {v k:Nat} (h2:σ 2=.int .u32 v) (h3:σ 3=.int .i64 k) (hr:uvR 5 l=some (v,k)):UvQ P l w .ret σ w:=by
 show postC [.tmp 2,.tmp 3] (fun e w'=>kE7 l e∧w'=w) .ret σ w
 simp only [postC,rvals,List.mapM_cons,List.mapM_nil,RV.val,h2,h3,Option.bind_eq_bind,Option.bind_some,Option.pure_def,tup]
 refine ⟨?_,trivial⟩
 unfold kE7;rw [hr]
theorem uv_last {X len cap:Nat} {a:Addr} {l:List UInt8} {b:UInt8} {σ:Sl} {w:World} {rest:IC} {Q:Exit→Sl→World→Prop} (hb:qW w (some a) len cap l) (hi:l[4]?=some b) (hX:X<2^28) (hS:UvS a len cap X σ)
  (hret:b.toNat≤15 →∀σ',σ' 2=.int .u32 ((X+b.toNat*2^28:Nat):Int)→σ' 3=.int .i64 5→Q .ret σ' w)
  (hnext :¬b.toNat≤15 →∀σ',wpC P rest Q σ' w) :
  wpC P (.seq (.blk [⟨some 74,.mv (.tmp 4),none⟩,⟨some 75,.mv (.tmp 0),none⟩,⟨some 76,.iad (.tmp 75) (.const (.int .i64 4)) 1,none⟩,⟨some 77,.ld (.tmp 76),none⟩,⟨some 78,.conv .u32 (.tmp 77),none⟩,⟨some 79,.bin .shl (.tmp 78) (.const (.int .u64 28)),none⟩,⟨some 80,.bin .or (.tmp 74) (.tmp 79),none⟩,⟨some 4,.mv (.tmp 80),none⟩])
   (.seq (.seq (.blk [⟨some 81,.mv (.tmp 0),none⟩,⟨some 82,.iad (.tmp 81) (.const (.int .i64 4)) 1,none⟩,⟨some 83,.ld (.tmp 82),none⟩,⟨some 84,.bin .leq (.tmp 83) (.const (.int .u8 15)),none⟩])
    (.cond (.tmp 84) (.seq (.blk [⟨some 85,.mv (.tmp 4),none⟩,⟨some 2,.mv (.tmp 85),none⟩,⟨some 3,.mv (.const (.int .i64 5)),none⟩]) .ret) .skip)) rest)) Q σ w:=by
 have hlt:=hb.lt hi
 have hg:=hb.get hi
 have hbl:=jH b
 have e4:IntKind.u32.wrap (b.toNat:Int)=b.toNat:=kBS (by omega)
 obtain ⟨q0,q4,q5⟩:=hS
 rw [wpC_seq,kD]
 refine kC (v:=.int .u32 X) (congrArg some q4) ?_
 refine kC (v:=.slice (some a) len cap) (by simp only [RK.val?,ev,updo,upd];simp [q0]) ?_
 refine kC (v:=.pointer (some (a.add 4))) (by simp only [RK.val?,ev,updo,upd,if_true];rw [if_pos (by omega)];simp) ?_
 refine kC (v:=.int .u8 b.toNat) (by simp only [RK.val?,ev,updo,upd,if_true];exact hg) ?_
 refine kC (v:=.int .u32 b.toNat) (by simp only [RK.val?,ev,updo,upd,if_true,e4]) ?_
 obtain ⟨m,hm⟩ :∃m:Int,kM .shl .u32 (b.toNat:Int) 28=some (.int .u32 m):=⟨_,by unfold kM;simp only;rw [if_neg (by omega)]⟩
 obtain ⟨y,hy⟩ :∃y:Int,kM .or .u32 (X:Int) m=some (.int .u32 y):=⟨_,rfl⟩
 refine kC (v:=.int .u32 m) (by simp only [RK.val?,ev,updo,upd,if_true,kL,Bool.true_or];exact hm) ?_
 refine kC (v:=.int .u32 y) (by
  simp only [RK.val?,ev,updo,upd,if_true,decide_true,Bool.or_true,show (74:Nat)≠75 by decide,show (74:Nat)≠76 by decide,show (74:Nat)≠77 by decide,show (74:Nat)≠78 by decide,show (74:Nat)≠79 by decide,if_false]
  exact hy) ?_
 refine kC (v:=.int .u32 y) (by simp only [RK.val?,ev,updo,upd,if_true]) ?_
 refine kE ?_
 generalize hσ1:updo _ (some 4) _=σ1
 have k0:σ1 0=.slice (some a) len cap:=by rw [←hσ1];simp [updo,upd,q0]
 have k4:σ1 4=.int .u32 y:=by rw [←hσ1];simp [updo,upd]
 clear hσ1
 rw [wpC_seq,wpC_seq,kD]
 refine kC (v:=.slice (some a) len cap) (congrArg some k0) ?_
 refine kC (v:=.pointer (some (a.add 4))) (by simp only [RK.val?,ev,updo,upd,if_true];rw [if_pos (by omega)];simp) ?_
 refine kC (v:=.int .u8 b.toNat) (by simp only [RK.val?,ev,updo,upd,if_true];exact hg) ?_
 refine kC (v:=.bool (decide (b.toNat≤15))) (by
  simp only [RK.val?,ev,updo,upd,if_true,decide_true,Bool.or_true,kM]
  congr 2;exact decide_eq_decide.2 (by omega)) ?_
 refine kE ?_
 by_cases hb4:b.toNat≤15
 ·have hs:=kM5 (x:=b.toNat) (s:=28) (by omega) (by omega)
  have ho:=kQM (x:=X) (y:=b.toNat) (s:=28) hX (by omega) (by omega)
  have em:m=((b.toNat*2^28:Nat):Int):=by
   have:=hm.symm.trans hs
   simpa using this
  rw [em] at hy
  have ey:y=((X+b.toNat*2^28:Nat):Int):=by
   have:=hy.symm.trans ho
   simpa using this
  rw [kI (by simp only [ev,updo,upd,if_true,hb4,decide_true]),wpC_seq,kD]
  refine kC (v:=.int .u32 y) (by simp only [RK.val?,ev,updo,upd];simp [k4]) ?_
  refine kC (v:=.int .u32 y) (by simp only [RK.val?,ev,updo,upd,if_true]) ?_
  refine kC (v:=.int .i64 5) rfl ?_
  refine kE ?_
  exact hret hb4 _ (by simp only [updo,upd,show (2:Nat)≠3 by decide,if_false,if_true,ey]) rfl
 ·rw [kG (by simp only [ev,updo,upd,if_true,hb4,decide_false]),wpC_skip]
  exact hnext hb4 _
theorem kPD {len cap:Nat} {base:Option Addr} {l:List UInt8} {σ:Sl} {w:World} {rest:IC} {Q:Exit→Sl→World→Prop} (hb:qW w base len cap l) (k0:σ 0=.slice base len cap)
  (hgo0:l=[] →∀σ',σ' 5=.int .i64 0→Q (.goto 0) σ' w)
  (hret :∀b r,l=b::r→b.toNat<128 →∀σ',σ' 2=.int .u32 b.toNat→σ' 3=.int .i64 1→Q .ret σ' w)
  (hgo1 :∀b,l=[b] →¬b.toNat<128 →∀σ',σ' 5=.int .i64 0→Q (.goto 0) σ' w)
  (hnext :∀a b c r,base=some a→l=b::c::r →¬b.toNat<128 →∀σ',UvS a len cap (b.toNat%128) σ'→wpC P rest Q σ' w) :
  wpC P (.seq (.blk [⟨some 4,.mv (.const (.int .u32 0)),none⟩]) (.seq (.blk [⟨some 5,.mv (.const (.int .i64 0)),none⟩])
   (.seq (.seq (.blk [⟨some 6,.mv (.tmp 0),none⟩,⟨some 7,.len (.tmp 6),none⟩,⟨some 8,.bin .lss (.tmp 7) (.const (.int .i64 1)),none⟩]) (.cond (.tmp 8) (.goto 0) .skip))
   (.seq (.blk [⟨some 9,.mv (.tmp 0),none⟩,⟨some 10,.iad (.tmp 9) (.const (.int .i64 0)) 1,none⟩,⟨some 11,.ld (.tmp 10),none⟩,⟨some 12,.bin .and (.tmp 11) (.const (.int .u8 127)),none⟩,⟨some 13,.conv .u32 (.tmp 12),none⟩,⟨some 4,.mv (.tmp 13),none⟩])
   (.seq (.seq (.blk [⟨some 14,.mv (.tmp 0),none⟩,⟨some 15,.iad (.tmp 14) (.const (.int .i64 0)) 1,none⟩,⟨some 16,.ld (.tmp 15),none⟩,⟨some 17,.bin .and (.tmp 16) (.const (.int .u8 128)),none⟩,⟨some 18,.bin .eql (.tmp 17) (.const (.int .u8 0)),none⟩])
    (.cond (.tmp 18) (.seq (.blk [⟨some 19,.mv (.tmp 4),none⟩,⟨some 2,.mv (.tmp 19),none⟩,⟨some 3,.mv (.const (.int .i64 1)),none⟩]) .ret)
     (.seq (.blk [⟨some 20,.mv (.tmp 0),none⟩,⟨some 21,.len (.tmp 20),none⟩,⟨some 22,.bin .lss (.tmp 21) (.const (.int .i64 2)),none⟩]) (.cond (.tmp 22) (.goto 0) .skip)))) rest))))) Q σ w:=by
 have hlen:=hb.hlen
 rw [wpC_seq,kD]
 refine kC (v:=.int .u32 0) rfl ?_
 refine kE ?_
 rw [wpC_seq,kD]
 refine kC (v:=.int .i64 0) rfl ?_
 refine kE ?_
 rw [wpC_seq,wpC_seq,kD]
 refine kC (v:=.slice base len cap) (by simp only [RK.val?,ev,updo,upd];simp [k0]) ?_
 refine kC (v:=.int .i64 len) (by simp only [RK.val?,ev,updo,upd,if_true]) ?_
 refine kC (v:=.bool (decide (len<1))) (by
  simp only [RK.val?,ev,updo,upd,if_true,kL,decide_true,Bool.or_true,kM]
  congr 2;exact decide_eq_decide.2 (by omega)) ?_
 refine kE ?_
 by_cases h1:len<1
 ·rw [kI (by simp only [ev,updo,upd,if_true,h1,decide_true])]
  exact hgo0 (List.length_eq_zero_iff.1 (by omega)) _ rfl
 rw [kG (by simp only [ev,updo,upd,if_true,h1,decide_false]),wpC_skip]
 simp only [kF]
 obtain ⟨a,rfl⟩ :∃a,base=some a:=by
  cases base with
  | some a=>exact ⟨a,rfl⟩
  | none=>have:=hb.hnone rfl;have:=hb.hcap;omega
 obtain ⟨b0,r0,rfl⟩ :∃b r,l=b::r:=by cases l with|nil=>simp at hlen;omega|cons b r=>exact ⟨b,r,rfl⟩
 have g0:=hb.get (i:=0) (b:=b0) rfl
 have hbl:=jH b0
 have e0:IntKind.u32.wrap ((b0.toNat%128:Nat):Int)=((b0.toNat%128:Nat):Int):=kBS (by omega)
 generalize hσ:updo _ (some 8) _=σ1
 have k0':σ1 0=.slice (some a) len cap:=by rw [←hσ];simp [updo,upd,k0]
 have k5:σ1 5=.int .i64 0:=by rw [←hσ];simp [updo,upd]
 clear hσ k0
 have k0:=k0'
 rw [wpC_seq,kD]
 refine kC (v:=.slice (some a) len cap) (congrArg some k0) ?_
 refine kC (v:=.pointer (some (a.add 0))) (by simp only [RK.val?,ev,updo,upd,if_true];rw [if_pos (by omega)];simp) ?_
 refine kC (v:=.int .u8 b0.toNat) (by simp only [RK.val?,ev,updo,upd,if_true];exact g0) ?_
 refine kC (v:=.int .u8 ((b0.toNat%128:Nat):Int)) (by simp only [RK.val?,ev,updo,upd,if_true,decide_true,Bool.or_true];exact kQK b0) ?_
 refine kC (v:=.int .u32 ((b0.toNat%128:Nat):Int)) (by simp only [RK.val?,ev,updo,upd,if_true,e0]) ?_
 refine kC (v:=.int .u32 ((b0.toNat%128:Nat):Int)) (by simp only [RK.val?,ev,updo,upd,if_true]) ?_
 refine kE ?_
 generalize hσ:updo _ (some 4) _=σ2
 have m0:σ2 0=.slice (some a) len cap:=by rw [←hσ];simp [updo,upd,k0]
 have m4:σ2 4=.int .u32 ((b0.toNat%128:Nat):Int):=by rw [←hσ];simp only [updo,upd,if_true]
 have m5:σ2 5=.int .i64 0:=by rw [←hσ];simp [updo,upd,k5]
 clear hσ
 rw [wpC_seq,wpC_seq,kD]
 refine kC (v:=.slice (some a) len cap) (congrArg some m0) ?_
 refine kC (v:=.pointer (some (a.add 0))) (by simp only [RK.val?,ev,updo,upd,if_true];rw [if_pos (by omega)];simp) ?_
 refine kC (v:=.int .u8 b0.toNat) (by simp only [RK.val?,ev,updo,upd,if_true];exact g0) ?_
 refine kC (v:=.int .u8 (if b0.toNat<128 then 0 else 128)) (by simp only [RK.val?,ev,updo,upd,if_true,decide_true,Bool.or_true];exact kQL b0) ?_
 refine kC (v:=.bool (decide (b0.toNat<128))) (by
  simp only [RK.val?,ev,updo,upd,if_true,decide_true,Bool.or_true,kM]
  by_cases hbb:b0.toNat<128<;>simp [hbb]) ?_
 refine kE ?_
 by_cases hb0:b0.toNat<128
 ·rw [kI (by simp only [ev,updo,upd,if_true,hb0,decide_true]),wpC_seq,kD]
  refine kC (v:=.int .u32 ((b0.toNat%128:Nat):Int)) (by simp only [RK.val?,ev,updo,upd];simp [m4]) ?_
  refine kC (v:=.int .u32 ((b0.toNat%128:Nat):Int)) (by simp only [RK.val?,ev,updo,upd,if_true]) ?_
  refine kC (v:=.int .i64 1) rfl ?_
  refine kE ?_
  exact hret b0 r0 rfl hb0 _ (by simp only [updo,upd,show (2:Nat)≠3 by decide,if_false,if_true];rw [Nat.mod_eq_of_lt hb0]) rfl
 rw [kG (by simp only [ev,updo,upd,if_true,hb0,decide_false]),wpC_seq,kD]
 refine kC (v:=.slice (some a) len cap) (by simp only [RK.val?,ev,updo,upd];simp [m0]) ?_
 refine kC (v:=.int .i64 len) (by simp only [RK.val?,ev,updo,upd,if_true]) ?_
 refine kC (v:=.bool (decide (len<2))) (by
  simp only [RK.val?,ev,updo,upd,if_true,kL,decide_true,Bool.or_true,kM]
  congr 2;exact decide_eq_decide.2 (by omega)) ?_
 refine kE ?_
 simp only [List.length_cons] at hlen
 by_cases h2:len<2
 ·rw [kI (by simp only [ev,updo,upd,if_true,h2,decide_true])]
  have:r0=[]:=List.length_eq_zero_iff.1 (by omega)
  subst this
  exact hgo1 b0 rfl hb0 _ (by simp [updo,upd,m5])
 rw [kG (by simp only [ev,updo,upd,if_true,h2,decide_false]),wpC_skip]
 simp only [kF]
 obtain ⟨b1,r1,rfl⟩ :∃b r,r0=b::r:=by cases r0 with|nil=>simp at hlen;omega|cons b r=>exact ⟨b,r,rfl⟩
 exact hnext a b0 b1 r1 rfl rfl hb0 _ ⟨by simp [updo,upd,m0],by simp [updo,upd,m4],by simp [updo,upd,m5]⟩
theorem kCF {n:Nat} {b:UInt8} {r:List UInt8} (h1 :¬b.toNat<128) (h2:uvR n r=none):uvR (n+1) (b::r)=none:=by simp only [uvR,h1,if_false,h2]
theorem kHZ (n:Nat):uvR n ([]:List UInt8)=none:=by cases n<;>rfl
theorem kGL (hm:P.follows .mixedOrders=true) (h:kH P (F qH)=some (ir_kUvarint F)) {base:Option Addr} {len cap:Nat} {l:List UInt8} {w:World} (hb:qW w base len cap l) :
  Calls P (F qH) [.slice base len cap].toArray w fun e w'=>kE7 l e∧w'=w:=by
 unfold ir_kUvarint at h
 refine kT h hm (by simp) ?_
 have a0:qE [.slice base len cap] 0=.slice base len cap:=rfl
 generalize qE [.slice base len cap]=σ0 at a0 ⊢
 have hlen:=hb.hlen
 rw [wpC_seq,kD]
 refine kC (v:=.int .u32 0) rfl ?_
 refine kC (v:=.int .i64 0) rfl ?_
 refine kE ?_
 have k0:updo (updo σ0 (some 2) (.int .u32 0)) (some 3) (.int .i64 0) 0=.slice base len cap:=by simp [updo,upd,a0]
 generalize updo (updo σ0 (some 2) (.int .u32 0)) (some 3) (.int .i64 0)=σ1 at k0 ⊢
 refine kPC ?_
 refine kPD hb k0 ?_ ?_ ?_ ?_
 ·rintro rfl σ' e5
  exact kEF (n:=0) (Int.le_refl _) e5 (kHZ _)
 ·rintro b r rfl hb0 σ' e2 e3
  refine kHY (v:=b.toNat) (k:=1) e2 e3 ?_
  simp only [uvR,hb0,if_true];simp
 ·rintro b rfl hb0 σ' e5
  exact kEF (n:=0) (Int.le_refl _) e5 (kCF hb0 (kHZ _))
 rintro a b0 b1 r1 rfl rfl hb0 σ1 hS1
 simp only [List.length_cons] at hlen
 refine kGK (t:=23) (i:=1) (sh:=7) (x:=b0.toNat%128) (b:=b1) (by omega) hb rfl (by omega) (by omega) rfl rfl rfl hS1 ?_ ?_ ?_
 ·intro hb1 σ' e2 e3
  refine kHY (v:=b0.toNat%128+b1.toNat*2^7) (k:=2) e2 e3 ?_
  simp only [uvR,hb0,hb1,if_true,if_false];simp;omega
 ·intro hb1 hl σ' e5
  have:r1=[]:=List.length_eq_zero_iff.1 (by omega)
  subst this
  exact kEF (n:=0) (Int.le_refl _) e5 (kCF hb0 (kCF hb1 (kHZ _)))
 intro hb1 hl1 σ2 hS2
 obtain ⟨b2,r2,rfl⟩ :∃b r,r1=b::r:=by cases r1 with|nil=>simp at hlen;omega|cons b r=>exact ⟨b,r,rfl⟩
 simp only [List.length_cons] at hlen
 refine kGK (t:=40) (i:=2) (sh:=14) (b:=b2) (by omega) hb rfl (by omega) (by omega) rfl rfl rfl hS2 ?_ ?_ ?_
 ·intro hb2 σ' e2 e3
  refine kHY (v:=b0.toNat%128+b1.toNat%128*2^7+b2.toNat*2^14) (k:=3) e2 e3 ?_
  simp only [uvR,hb0,hb1,hb2,if_true,if_false];simp;omega
 ·intro hb2 hl σ' e5
  have:r2=[]:=List.length_eq_zero_iff.1 (by omega)
  subst this
  exact kEF (n:=0) (Int.le_refl _) e5 (kCF hb0 (kCF hb1 (kCF hb2 (kHZ _))))
 intro hb2 hl2 σ3 hS3
 obtain ⟨b3,r3,rfl⟩ :∃b r,r2=b::r:=by cases r2 with|nil=>simp at hlen;omega|cons b r=>exact ⟨b,r,rfl⟩
 simp only [List.length_cons] at hlen
 refine kGK (t:=57) (i:=3) (sh:=21) (b:=b3) (by omega) hb rfl (by omega) (by omega) rfl rfl rfl hS3 ?_ ?_ ?_
 ·intro hb3 σ' e2 e3
  refine kHY (v:=b0.toNat%128+b1.toNat%128*2^7+b2.toNat%128*2^14+b3.toNat*2^21) (k:=4) e2 e3 ?_
  simp only [uvR,hb0,hb1,hb2,hb3,if_true,if_false];simp;omega
 ·intro hb3 hl σ' e5
  have:r3=[]:=List.length_eq_zero_iff.1 (by omega)
  subst this
  exact kEF (n:=0) (Int.le_refl _) e5 (kCF hb0 (kCF hb1 (kCF hb2 (kCF hb3 (kHZ _)))))
 intro hb3 hl3 σ4 hS4
 obtain ⟨b4,r4,rfl⟩ :∃b r,r3=b::r:=by cases r3 with|nil=>simp at hlen;omega|cons b r=>exact ⟨b,r,rfl⟩
 refine uv_last (b:=b4) hb rfl (by omega) hS4 ?_ ?_
 ·intro hb4 σ' e2 e3
  refine kHY (v:=b0.toNat%128+b1.toNat%128*2^7+b2.toNat%128*2^14+b3.toNat%128*2^21+b4.toNat*2^28) (k:=5) e2 e3 ?_
  have hb4':b4.toNat<128:=by omega
  have hb4'' :¬15<b4.toNat:=by omega
  simp only [uvR,hb0,hb1,hb2,hb3,hb4',hb4'',if_true,if_false,and_false];simp;omega
 ·intro hb4 σ'
  have hfail:uvR 5 (b0::b1::b2::b3::b4::r4)=none:=by
   refine kCF hb0 (kCF hb1 (kCF hb2 (kCF hb3 ?_)))
   by_cases hb5:b4.toNat<128
   ·simp only [uvR,hb5,if_true];simp;omega
   ·simp only [uvR,hb5,if_false]
  rw [wpC_seq,kD]
  refine kC (v:=.int .i64 (-5)) rfl ?_
  refine kE ?_
  exact kKT (n:=-5) rfl fun _ e2 e3=>kM6 (by omega) e2 e3 hfail
end
theorem kH0 :∀(n:Nat) (l:List UInt8) (v k:Nat),uvR n l=some (v,k)→0<k∧k≤l.length∧v<128^n
 | 0,l,v,k,h=>by simp [uvR] at h
 | n+1,[],v,k,h=>by simp [uvR] at h
 | n+1,b::r,v,k,h=>by
   simp only [uvR] at h
   split at h
   ·rename_i hb
    split at h
    ·simp at h
    ·simp only [Option.some.injEq,Prod.mk.injEq] at h
     obtain ⟨rfl,rfl⟩:=h
     refine ⟨by omega,by simp,?_⟩
     rw [Nat.pow_succ]
     have:0<128^n:=Nat.pow_pos (by omega)
     omega
   ·cases hr:uvR n r with
    | none=>simp [hr] at h
    | some q =>
      obtain ⟨v',k'⟩:=q
      simp only [hr,Option.some.injEq,Prod.mk.injEq] at h
      obtain ⟨rfl,rfl⟩:=h
      obtain ⟨h1,h2,h3⟩:=kH0 n r v' k' hr
      refine ⟨by omega,by simp;omega,?_⟩
      rw [Nat.pow_succ]
      omega
theorem kM7 {n:Nat} :∀(l:List UInt8) (v k:Nat),uvR (n+1) l=some (v,k)→v<16*128^n:=by
 induction n with
 | zero =>
   intro l v k h
   cases l with
   | nil=>simp [uvR] at h
   | cons b r =>
     simp only [uvR] at h
     split at h
     ·split at h
      ·simp at h
      ·simp only [Option.some.injEq,Prod.mk.injEq] at h;obtain ⟨rfl,rfl⟩:=h;simp at *;omega
     ·simp at h
 | succ n ih =>
   intro l v k h
   cases l with
   | nil=>simp [uvR] at h
   | cons b r =>
     rw [uvR] at h
     have hp:0<128^n:=Nat.pow_pos (by omega)
     split at h
     ·split at h
      ·simp at h
      ·simp only [Option.some.injEq,Prod.mk.injEq] at h
       obtain ⟨rfl,rfl⟩:=h
       rw [Nat.pow_succ];omega
     ·cases hr:uvR (n+1) r with
      | none=>simp [hr] at h
      | some q =>
        obtain ⟨v',k'⟩:=q
        simp only [hr,Option.some.injEq,Prod.mk.injEq] at h
        obtain ⟨rfl,rfl⟩:=h
        have:=ih r v' k' hr
        rw [Nat.pow_succ];omega
def rdUv (s:RS):Nat×RS :=
 match uvR 5 s.src with
 | some (v,k)=>(v,{s with src:=s.src.drop k})
 | none=>(0,RS.fail)
theorem xQ (s:RS):(rdUv s).1<4294967296:=by
 unfold rdUv
 split
 ·rename_i v k h;exact kM7 (n:=4) _ _ _ h
 ·show 0<_;omega
section
variable {P:Program} {F:Nat→Nat}
theorem fail_wp {t rb:Nat} {S:List Nat} {c:Value} {u v:Value} {σ:Sl} {w:World} {Q:Exit→Sl→World→Prop} (ht:3≤t) (h0:σ 0=.pointer (some ⟨rb,0,none⟩)) (hb:Blk w rb [u,v])
 (hQ :∀σ' w',σ' 2=c→IsRd S w' rb RS.fail→Mod [rb] w w'→Q .ret σ' w') :
 wpC P (.seq (.blk [⟨some t,.mv (.tmp 0),none⟩,⟨some (t+1),.nilc (.tmp t),none⟩,⟨some (t+2),.fad (.tmp (t+1)) 1,none⟩,⟨none,.st (.tmp (t+2)) 1 (.const (.bool true)),none⟩])
 (.seq (.blk [⟨some (t+3),.mv (.tmp 0),none⟩,⟨some (t+4),.nilc (.tmp (t+3)),none⟩,⟨some (t+5),.fad (.tmp (t+4)) 0,none⟩,⟨none,.st (.tmp (t+5)) 1 (.const (.slice none 0 0)),none⟩])
 (.seq (.blk [⟨some 2,.mv (.const c),none⟩]) .ret))) Q σ w:=by
 obtain ⟨f1,f2,f3,f4⟩:=vV (S:=S) hb
 rw [wpC_seq,kD]
 refine kC (v:=.pointer (some ⟨rb,0,none⟩)) (congrArg some h0) ?_
 refine kC (v:=.pointer (some ⟨rb,0,none⟩)) (by simp only [RK.val?,ev,updo,upd,if_true]) ?_
 refine kC (v:=.pointer (some ⟨rb,1,none⟩)) (by simp only [RK.val?,ev,updo,upd,if_true,Addr.kK]) ?_
 refine kX ?_
 simp only [RK.run,ev,updo,upd,if_true]
 refine ⟨rfl,f1,?_⟩
 refine kE ?_
 rw [wpC_seq,kD]
 refine kC (v:=.pointer (some ⟨rb,0,none⟩)) (by simp only [RK.val?,ev,upd,show (0:Nat)≠t by omega,show (0:Nat)≠t+1 by omega,show (0:Nat)≠t+2 by omega,if_false,h0]) ?_
 refine kC (v:=.pointer (some ⟨rb,0,none⟩)) (by simp only [RK.val?,ev,updo,upd,if_true]) ?_
 refine kC (v:=.pointer (some ⟨rb,0,none⟩)) (by simp only [RK.val?,ev,updo,upd,if_true,Addr.kK]) ?_
 refine kX ?_
 simp only [RK.run,ev,updo,upd,if_true]
 refine ⟨rfl,f2,?_⟩
 refine kE ?_
 rw [wpC_seq,kD]
 refine kC (v:=c) rfl ?_
 refine kE ?_
 exact hQ _ _ (by simp only [updo,upd,if_true]) f3 f4
theorem zO (hm:P.follows .mixedOrders=true) (h:kH P (F qB)=some (ir_rUvarint F)) (hk:kH P (F qH)=some (ir_kUvarint F)) :
  RdC P (F qB) fun s=>(.int .u32 (rdUv s).1,(rdUv s).2):=by
 intro S w rb s hr hS
 obtain ⟨base,len,cap,h1,h2,h3,h4⟩:=hr.ex
 unfold ir_rUvarint at h
 refine kT h hm (by simp) ?_
 have hlen:=h2.hlen
 have hcap:=h2.hcap
 have c0:w.cell? ⟨rb,0,none⟩=some (.slice base len cap):=h1.cell 0
 have a0:qE [.pointer (some ⟨rb,0,none⟩)] 0=.pointer (some ⟨rb,0,none⟩):=rfl
 generalize qE [.pointer (some ⟨rb,0,none⟩)]=σ0 at a0 ⊢
 rw [wpC_seq,kD]
 refine kC (v:=.int .u32 0) rfl ?_
 refine kE ?_
 rw [wpC_seq,kD]
 refine kC (v:=.pointer (some ⟨rb,0,none⟩)) (by simp only [RK.val?,ev,updo,upd];simp [a0]) ?_
 refine kC (v:=.pointer (some ⟨rb,0,none⟩)) (by simp only [RK.val?,ev,updo,upd,if_true]) ?_
 refine kC (v:=.pointer (some ⟨rb,0,none⟩)) (by simp only [RK.val?,ev,updo,upd,if_true,Addr.kK]) ?_
 refine kC (v:=.slice base len cap) (by simp only [RK.val?,ev,updo,upd,if_true,c0]) ?_
 refine xD (vs:=[.slice base len cap]) (by simp only [List.map_cons,List.map_nil,ev,updo,upd,if_true]) (kGL hm hk h2) ?_
 rintro e w1 ⟨hres,rfl⟩
 -- in either case a pair of a number and how many octets
 obtain ⟨v,n,rfl,hvn⟩ :∃(v n:Int),e=.returned (.tuple #[.int .u32 v,.int .i64 n])∧((n≤0∧v=0∧rdUv s=(0,RS.fail)) ∨∃k:Nat,n=k∧0<k∧k≤len∧rdUv s=(v.toNat,{s with src:=s.src.drop k})∧0≤v):=by
  unfold kE7 at hres
  unfold rdUv
  split at hres
  ·rename_i v k hu
   have hbd:=kH0 _ _ _ _ hu
   exact ⟨v,k,hres,.inr ⟨k,rfl,hbd.1,by omega,by first|(simp;done)|simp [hu],by omega⟩⟩
  ·rename_i hu
   obtain ⟨n,hn,rfl⟩:=hres
   exact ⟨0,n,rfl,.inl ⟨hn,rfl,by first|(simp;done)|simp [hu]⟩⟩
 refine ⟨_,rfl,?_⟩
 generalize hT:Value.tuple #[.int .u32 v,.int .i64 n]=T
 refine kC (v:=T) (by simp only [RK.val?,ev,updo,upd,if_true]) ?_
 refine kC (v:=.int .u32 v) (by subst hT;simp only [RK.val?,ev,updo,upd,if_true];rfl) ?_
 refine kC (v:=.int .i64 n) (by subst hT;simp only [RK.val?,ev,updo,upd];rfl) ?_
 refine kC (v:=.int .u32 v) (by simp only [RK.val?,ev,updo,upd];simp) ?_
 refine kC (v:=.int .i64 n) (by simp only [RK.val?,ev,updo,upd];simp) ?_
 refine kE ?_
 generalize hσ:updo _ (some 4) _=σ1
 have k0:σ1 0=.pointer (some ⟨rb,0,none⟩):=by rw [←hσ];simp [updo,upd,a0]
 have k3:σ1 3=.int .u32 v:=by rw [←hσ];simp [updo,upd]
 have k4:σ1 4=.int .i64 n:=by rw [←hσ];simp [updo,upd]
 clear hσ
 rw [wpC_seq,wpC_seq,kD]
 refine kC (v:=.int .i64 n) (congrArg some k4) ?_
 refine kC (v:=.bool (decide (n≤0))) (by simp only [RK.val?,ev,updo,upd,if_true,kL,decide_true,Bool.or_true,kM]) ?_
 refine kE ?_
 rcases hvn with ⟨hn,rfl,hrd⟩|⟨k,rfl,hk0,hkl,hrd,hv0⟩
 ·rw [kI (by simp only [ev,updo,upd,if_true,hn,decide_true])]
  refine fail_wp (t:=15) (rb:=rb) (S:=S) (c:=.int .u32 0) (by omega) (by simp only [updo,upd];simp [k0]) h1 fun σ' w' e2 hr' hm'=>?_
  simp only [kF,postC,rvals,List.mapM_cons,List.mapM_nil,RV.val,e2,Option.bind_eq_bind,Option.bind_some,Option.pure_def,zR]
  rw [hrd];exact ⟨rfl,hr',hm'⟩
 ·have hn :¬(k:Int)≤0:=by omega
  rw [kG (by simp only [ev,updo,upd,if_true,hn,decide_false]),wpC_skip]
  simp only [kF]
  obtain ⟨g1,g2,g3⟩:=kDE (S:=S) h1 h2 h3 h4 hr.short (k:=k) hkl
  rw [wpC_seq,kD]
  refine kC (v:=.pointer (some ⟨rb,0,none⟩)) (by simp only [RK.val?,ev,updo,upd];simp [k0]) ?_
  refine kC (v:=.pointer (some ⟨rb,0,none⟩)) (by simp only [RK.val?,ev,updo,upd];simp [k0]) ?_
  refine kC (v:=.pointer (some ⟨rb,0,none⟩)) (by simp only [RK.val?,ev,updo,upd,if_true]) ?_
  refine kC (v:=.pointer (some ⟨rb,0,none⟩)) (by simp only [RK.val?,ev,updo,upd,if_true,Addr.kK]) ?_
  refine kC (v:=.slice base len cap) (by simp only [RK.val?,ev,updo,upd,if_true,c0]) ?_
  refine kC (v:=.int .i64 k) (by simp only [RK.val?,ev,updo,upd];simp [k4]) ?_
  refine kC (v:=.slice (if cap=k then base else base.map (·.add (k*1))) (len-k) (cap-k)) (by
   simp only [RK.val?,ev,updo,upd,bnd,show (25:Nat)≠26 by decide,if_false,if_true]
   rw [if_pos (by omega)]
   simp) ?_
  refine kC (v:=.pointer (some ⟨rb,0,none⟩)) (by simp only [RK.val?,ev,updo,upd];simp) ?_
  refine kC (v:=.pointer (some ⟨rb,0,none⟩)) (by simp only [RK.val?,ev,updo,upd,if_true,Addr.kK]) ?_
  refine kX ?_
  simp only [RK.run,ev,updo,upd,if_true,show (27:Nat)≠29 by decide,show (27:Nat)≠28 by decide,if_false]
  refine ⟨rfl,g1,?_⟩
  refine kE ?_
  rw [wpC_seq,kD]
  refine kC (v:=.int .u32 v) (by simp only [RK.val?,ev,upd];simp [k3]) ?_
  refine kC (v:=.int .u32 v) (by simp only [RK.val?,ev,updo,upd,if_true]) ?_
  refine kE ?_
  simp only [wpC,postC,rvals,List.mapM_cons,List.mapM_nil,RV.val,updo,upd,if_true,Option.bind_eq_bind,Option.bind_some,Option.pure_def,zR]
  rw [hrd]
  refine ⟨?_,g2,g3⟩
  rw [Int.toNat_of_nonneg hv0]
attribute [local simp] bnd wpC wpR RI.wp gOk RK.run kF kR updo upd ev qE postC rvals RV.val zR kL
theorem kLS (hm:P.follows .mixedOrders=true) (h:kH P (F kHN)=some (ir_rBool F)) :
  RdC P (F kHN) fun s=>(.bool (decide ((rdN 1 s).1≠0)),(rdN 1 s).2):=by
 intro S w rb s hr hS
 obtain ⟨base,len,cap,h1,h2,h3,h4⟩:=hr.ex
 refine kT h hm (by simp) ?_
 have hlen:=h2.hlen
 have c0:w.cell? ⟨rb,0,none⟩=some (.slice base len cap):=h1.cell 0
 by_cases hlt:len<1
 ·have hlt':(len:Int)<1:=by omega
  obtain ⟨f1,f2,f3,f4⟩:=vV (S:=S) h1
  have hv:rdN 1 s=(0,RS.fail):=by unfold rdN;rw [if_neg (by omega)]
  simp [Addr.kK,c0,hlt',Value.cells,f1,f2,f3,f4,hv]
 ·have hlt' :¬(len:Int)<1:=by omega
  have hv:rdN 1 s=(beNat (s.src.take 1),{s with src:=s.src.drop 1}):=by unfold rdN;rw [if_pos (by omega)]
  obtain ⟨a,rfl⟩ :∃a,base=some a:=by
   cases base with
   | some a=>exact ⟨a,rfl⟩
   | none=>have:=h2.hnone rfl;have:=h2.hcap;omega
  obtain ⟨b0,r0,hs⟩ :∃b r,s.src=b::r:=by cases hl:s.src with|nil=>rw [hl] at hlen;simp at hlen;omega|cons b r=>exact ⟨b,r,rfl⟩
  have g0:=h2.get (i:=0) (b:=b0) (by rw [hs];rfl)
  obtain ⟨g1,g2,g3⟩:=kDE (S:=S) h1 h2 h3 h4 hr.short (k:=1) (by omega)
  have hcap:=h2.hcap
  have hp:(0:Nat)<len:=by omega
  have hbe:beNat (s.src.take 1)=b0.toNat:=by rw [hs];simp [beNat]
  simp [Addr.kK,c0,hlt',hp,g0,Value.cells,hv,hbe]
  simp at g1 g2 g3
  refine ⟨by omega,by omega,g1,?_,g2,g3⟩
  rcases Nat.eq_zero_or_pos b0.toNat with h0|h0
  ·simp [h0]
  ·have :¬b0.toNat=0:=by omega
   simp [this]
theorem kLT (hm:P.follows .mixedOrders=true) (h:kH P (F kHO)=some (ir_rInt8 F)) :
  RdC P (F kHO) fun s=>(.int .i8 (IntKind.i8.wrap (rdN 1 s).1),(rdN 1 s).2):=by
 intro S w rb s hr hS
 obtain ⟨base,len,cap,h1,h2,h3,h4⟩:=hr.ex
 refine kT h hm (by simp) ?_
 have hlen:=h2.hlen
 have c0:w.cell? ⟨rb,0,none⟩=some (.slice base len cap):=h1.cell 0
 by_cases hlt:len<1
 ·have hlt':(len:Int)<1:=by omega
  obtain ⟨f1,f2,f3,f4⟩:=vV (S:=S) h1
  have hv:rdN 1 s=(0,RS.fail):=by unfold rdN;rw [if_neg (by omega)]
  simp [Addr.kK,c0,hlt',Value.cells,f1,f2,f3,f4,hv]
  simp [kCB]
 ·have hlt' :¬(len:Int)<1:=by omega
  have hv:rdN 1 s=(beNat (s.src.take 1),{s with src:=s.src.drop 1}):=by unfold rdN;rw [if_pos (by omega)]
  obtain ⟨a,rfl⟩ :∃a,base=some a:=by
   cases base with
   | some a=>exact ⟨a,rfl⟩
   | none=>have:=h2.hnone rfl;have:=h2.hcap;omega
  obtain ⟨b0,r0,hs⟩ :∃b r,s.src=b::r:=by cases hl:s.src with|nil=>rw [hl] at hlen;simp at hlen;omega|cons b r=>exact ⟨b,r,rfl⟩
  have g0:=h2.get (i:=0) (b:=b0) (by rw [hs];rfl)
  obtain ⟨g1,g2,g3⟩:=kDE (S:=S) h1 h2 h3 h4 hr.short (k:=1) (by omega)
  have hcap:=h2.hcap
  have hp:(0:Nat)<len:=by omega
  have hbe:beNat (s.src.take 1)=b0.toNat:=by rw [hs];simp [beNat]
  simp [Addr.kK,c0,hlt',hp,g0,Value.cells,hv,hbe]
  simp at g1 g2 g3
  exact ⟨by omega,by omega,g1,g2,g3⟩
theorem kH1 (hm:P.follows .mixedOrders=true) (h:kH P (F kAD)=some (ir_rUint16 F)) (hbe:kH P (F zC)=some (ir_beUint16 F)) :
  RdC P (F kAD) fun s=>(.int .u16 (rdN 2 s).1,(rdN 2 s).2):=by
 intro S w rb s hr hS
 obtain ⟨base,len,cap,h1,h2,h3,h4⟩:=hr.ex
 refine kT h hm (by simp) ?_
 have hlen:=h2.hlen
 have c0:w.cell? ⟨rb,0,none⟩=some (.slice base len cap):=h1.cell 0
 by_cases hlt:len<2
 ·have hlt':(len:Int)<2:=by omega
  obtain ⟨f1,f2,f3,f4⟩:=vV (S:=S) h1
  have hv:rdN 2 s=(0,RS.fail):=by unfold rdN;rw [if_neg (by omega)]
  simp [Addr.kK,c0,hlt',Value.cells,f1,f2,f3,f4,hv]
 ·have hlt' :¬(len:Int)<2:=by omega
  have hv:rdN 2 s=(beNat (s.src.take 2),{s with src:=s.src.drop 2}):=by unfold rdN;rw [if_pos (by omega)]
  simp [Addr.kK,c0,hlt']
  obtain ⟨a,rfl⟩ :∃a,base=some a:=by
   cases base with
   | some a=>exact ⟨a,rfl⟩
   | none=>have:=h2.hnone rfl;have:=h2.hcap;omega
  refine kGC (.int .u16 (beNat (s.src.take 2):Nat)) ?_
  have c0':w.drew.cell? ⟨rb,0,none⟩=some (.slice (some a) len cap):=c0
  simp [j4,RK.val?,Addr.kK,c0',kV]
  refine ⟨fun w1 hw=>?_,fun w1 hw=>?_⟩
  ·have hw':Mod [] w w1:=(Mod.drew _ _).trans hw
   exact (kCD (w:=w1) hm hbe (h2.mod hw' (by simp)) (by omega)).mono fun e w' h=>h
  ·have hw':Mod [] w w1:=(Mod.drew _ _).trans hw
   have c1:w1.cell? ⟨rb,0,none⟩=some (.slice (some a) len cap):=(h1.mod hw' (by simp)).cell 0
   obtain ⟨g1,g2,g3⟩:=kDE (S:=S) (h1.mod hw' (by simp)) (h2.mod hw' (by simp)) h3 (fun a h=>⟨(h4 a h).1,(h4 a h).2.1,Nat.lt_of_lt_of_le (h4 a h).2.2 hw'.size⟩) hr.short (k:=2) (by omega)
   have hcap:=h2.hcap
   simp [c1,Value.cells,hv]
   simp at g1 g2 g3
   exact ⟨by omega,by omega,g1,g2,hw'.nil.trans g3⟩
theorem kM8 {n:Nat} (h:n<18446744073709551616):IntKind.u64.wrap (n:Int)=n:=by
 simp [IntKind.wrap,IntKind.bits,IntKind.signed];omega
theorem uU {t i s X len cap:Nat} {ii ss:Int} {a:Addr} {l:List UInt8} {b:UInt8} {σ:Sl} {w:World} {rest:List RI} {Q:Sl→World→Prop} (ht:2≤t) (hb:qW w (some a) len cap l) (hi:l[i]?=some b) (hX:X<2^s) (hs:s≤56)
  (eii:ii=i) (ess:ss=s) (h1:σ 1=.slice (some a) len cap) (hx:σ (t-1)=.int .u64 X)
  (hQ :∀σ',(∀j,j<t→σ' j=σ j)→σ' (t+5)=.int .u64 ((X+b.toNat*2^s:Nat):Int)→wpR P rest σ' w Q) :
  wpR P (⟨some t,.mv (.tmp 1),none⟩::⟨some (t+1),.iad (.tmp t) (.const (.int .i64 ii)) 1,none⟩::⟨some (t+2),.ld (.tmp (t+1)),none⟩::⟨some (t+3),.conv .u64 (.tmp (t+2)),none⟩ ::
   ⟨some (t+4),.bin .shl (.tmp (t+3)) (.const (.int .u64 ss)),none⟩::⟨some (t+5),.bin .or (.tmp (t-1)) (.tmp (t+4)),none⟩::rest) σ w Q:=by
 subst eii ess
 have hlt:=hb.lt hi
 have hg:=hb.get hi
 have hbl:=jH b
 have hp:(2:Nat)^s≤2^56:=Nat.pow_le_pow_right (by omega) hs
 have hm1:b.toNat*2^s≤255*2^56:=Nat.mul_le_mul (by omega) hp
 have h2:b.toNat*2^s<18446744073709551616:=by omega
 have ew:IntKind.u64.wrap (b.toNat:Int)=b.toNat:=kM8 (by omega)
 have e1:kM .shl .u64 (b.toNat:Int) (s:Int)=some (.int .u64 ((b.toNat*2^s:Nat):Int)):=kJL (k:=.u64) rfl (by simp only [IntKind.bits];omega) (by simpa [IntKind.bits] using h2)
 have e2:kM .or .u64 (X:Int) ((b.toNat*2^s:Nat):Int)=some (.int .u64 ((X+b.toNat*2^s:Nat):Int)):=by
  have e:=kKR (k:=.u64) rfl (x:=X) (y:=b.toNat*2^s) (by simp only [IntKind.bits];omega) (by simpa [IntKind.bits] using h2)
  rw [e,Nat.or_comm,Nat.or_comm,kKQ b.toNat X s hX,Nat.add_comm]
 refine kC (v:=.slice (some a) len cap) (congrArg some h1) ?_
 refine kC (v:=.pointer (some (a.add i))) (by simp only [RK.val?,ev,updo,upd,if_true];rw [if_pos (by omega)];simp) ?_
 refine kC (v:=.int .u8 b.toNat) (by simp only [RK.val?,ev,updo,upd,if_true];exact hg) ?_
 refine kC (v:=.int .u64 b.toNat) (by simp only [RK.val?,ev,updo,upd,if_true,ew]) ?_
 refine kC (v:=.int .u64 ((b.toNat*2^s:Nat):Int)) (by simp only [RK.val?,ev,updo,upd,if_true,kL,Bool.true_or];exact e1) ?_
 refine kC (v:=.int .u64 ((X+b.toNat*2^s:Nat):Int)) (by
  simp only [RK.val?,ev,updo,upd,show t-1≠t+4 by omega,show t-1≠t+3 by omega,show t-1≠t+2 by omega,show t-1≠t+1 by omega,show t-1≠t by omega,if_false,if_true,hx,decide_true,Bool.or_true]
  exact e2) ?_
 refine hQ _ (fun j hj=>?_) (by simp only [updo,upd,if_true])
 simp only [updo,upd,show j≠t by omega,show j≠t+1 by omega,show j≠t+2 by omega,show j≠t+3 by omega,show j≠t+4 by omega,show j≠t+5 by omega,if_false]
theorem beNat8 (b0 b1 b2 b3 b4 b5 b6 b7:UInt8) (r:List UInt8):beNat ((b0::b1::b2::b3::b4::b5::b6::b7::r).take 8) =
 b7.toNat+b6.toNat*2^8+b5.toNat*2^16+b4.toNat*2^24+b3.toNat*2^32+b2.toNat*2^40+b1.toNat*2^48+b0.toNat*2^56:=by
 simp [beNat];omega
theorem kGM {w:World} (hm:P.follows .mixedOrders=true) (h:kH P (F xG)=some (ir_beUint64 F)) {a:Addr} {len cap:Nat} {l:List UInt8}
  (hb:qW w (some a) len cap l) (h2:8≤l.length) :
  Calls P (F xG) [.agg #[],.slice (some a) len cap].toArray w fun e w'=>e=.returned (.int .u64 (beNat (l.take 8):Nat))∧Mod [] w w':=by
 obtain ⟨b0,b1,b2,b3,b4,b5,b6,b7,r,rfl⟩ :∃b0 b1 b2 b3 b4 b5 b6 b7 r,l=b0::b1::b2::b3::b4::b5::b6::b7::r:=by
  match l,h2 with
  | b0::b1::b2::b3::b4::b5::b6::b7::r,_=>exact ⟨b0,b1,b2,b3,b4,b5,b6,b7,r,rfl⟩
 unfold ir_beUint64 at h
 refine kT h hm (by simp) ?_
 have hl7:7<len:=hb.lt (i:=7) rfl
 have c0:=jH b0
 have c1:=jH b1
 have c2:=jH b2
 have c3:=jH b3
 have c4:=jH b4
 have c5:=jH b5
 have c6:=jH b6
 have c7:=jH b7
 rw [beNat8]
 have a0:qE [.agg #[],.slice (some a) len cap] 0=.agg #[]:=rfl
 have a1:qE [.agg #[],.slice (some a) len cap] 1=.slice (some a) len cap:=rfl
 generalize qE [.agg #[],.slice (some a) len cap]=σ0 at a0 a1 ⊢
 rw [wpC_seq,kD]
 refine kX ?_
 intro T
 have hm1:Mod [] w (w.alloc (.cells (ev σ0 (.tmp 0)).cells.toList.toArray T)):=Mod.alloc _ _ _
 generalize w.alloc (.cells (ev σ0 (.tmp 0)).cells.toList.toArray T)=w1 at hm1 ⊢
 have hb1:=hb.mod hm1 (by simp)
 refine kC (v:=.int .u64 0) rfl ?_
 refine kE ?_
 rw [wpC_seq,kD]
 refine kC (v:=.slice (some a) len cap) (by simp only [RK.val?,ev,updo,upd];simp [a1]) ?_
 refine kC (v:=.pointer (some (a.add 7))) (by simp only [RK.val?,ev,updo,upd,if_true];rw [if_pos (by omega)];simp) ?_
 refine kC (v:=.int .u8 b7.toNat) (by simp only [RK.val?,ev,updo,upd,if_true];exact hb1.get (i:=7) rfl) ?_
 refine kE ?_
 generalize hσ:updo _ (some 7) _=σ1
 have k1:σ1 1=.slice (some a) len cap:=by rw [←hσ];simp [updo,upd,a1]
 clear hσ
 rw [wpC_seq]
 refine xC rfl ?_
 have hm2:Mod [] w w1.drew:=hm1.trans (Mod.drew _ _)
 have hb2:qW w1.drew (some a) len cap (b0::b1::b2::b3::b4::b5::b6::b7::r):=hb.mod hm2 (by simp)
 generalize w1.drew=w2 at hm2 hb2 ⊢
 simp only [List.map_cons,List.map_nil,List.append_nil]
 have ew:IntKind.u64.wrap (b7.toNat:Int)=b7.toNat:=kM8 (by omega)
 refine kC (v:=.slice (some a) len cap) (congrArg some k1) ?_
 refine kC (v:=.pointer (some (a.add 7))) (by simp only [RK.val?,ev,updo,upd,if_true];rw [if_pos (by omega)];simp) ?_
 refine kC (v:=.int .u8 b7.toNat) (by simp only [RK.val?,ev,updo,upd,if_true];exact hb2.get (i:=7) rfl) ?_
 refine kC (v:=.int .u64 b7.toNat) (by simp only [RK.val?,ev,updo,upd,if_true,ew]) ?_
 refine uU (t:=12) (i:=6) (s:=8) (X:=b7.toNat) (by omega) hb2 rfl (by omega) (by omega) rfl rfl (by simp only [updo,upd];simp [k1]) (by simp only [updo,upd];simp) fun σ2 q2 x2=>?_
 refine uU (t:=18) (i:=5) (s:=16) (by omega) hb2 rfl (by omega) (by omega) rfl rfl (by rw [q2 1 (by omega)];simp only [updo,upd];simp [k1]) x2 fun σ3 q3 x3=>?_
 refine uU (t:=24) (i:=4) (s:=24) (by omega) hb2 rfl (by omega) (by omega) rfl rfl (by rw [q3 1 (by omega),q2 1 (by omega)];simp only [updo,upd];simp [k1]) x3 fun σ4 q4 x4=>?_
 refine uU (t:=30) (i:=3) (s:=32) (by omega) hb2 rfl (by omega) (by omega) rfl rfl (by rw [q4 1 (by omega),q3 1 (by omega),q2 1 (by omega)];simp only [updo,upd];simp [k1]) x4 fun σ5 q5 x5=>?_
 have z5:σ5 1=.slice (some a) len cap:=by rw [q5 1 (by omega),q4 1 (by omega),q3 1 (by omega),q2 1 (by omega)];simp only [updo,upd];simp [k1]
 refine uU (t:=36) (i:=2) (s:=40) (by omega) hb2 rfl (by omega) (by omega) rfl rfl z5 x5 fun σ6 q6 x6=>?_
 refine uU (t:=42) (i:=1) (s:=48) (by omega) hb2 rfl (by omega) (by omega) rfl rfl ((q6 1 (by omega)).trans z5) x6 fun σ7 q7 x7=>?_
 refine uU (t:=48) (i:=0) (s:=56) (by omega) hb2 rfl (by omega) (by omega) rfl rfl ((q7 1 (by omega)).trans ((q6 1 (by omega)).trans z5)) x7 fun σ8 q8 x8=>?_
 refine kC (congrArg some x8) ?_
 simp only [wpR,kF,wpC,postC,rvals,List.mapM_cons,List.mapM_nil,RV.val,updo,upd,if_true,Option.bind_eq_bind,Option.bind_some,Option.pure_def,zR]
 exact ⟨trivial,hm2⟩
end
def wD (s:RS):List UInt8×RS:=((qG 16 s).1.getD (List.replicate 16 0),(qG 16 s).2)
def rdCl (s:RS):Int×RS:=(((rdUv s).1:Int)-1,(rdUv s).2)
def jZ (s:RS):List UInt8×RS:=((qG (rdCl s).1 (rdCl s).2).1.getD [],(qG (rdCl s).1 (rdCl s).2).2)
def kW (s:RS):Option (List UInt8)×RS :=
 if (rdCl s).1<0 then (none,(rdCl s).2) else (some ((qG (rdCl s).1 (rdCl s).2).1.getD []),(qG (rdCl s).1 (rdCl s).2).2)
def wZ (s:RS):Option (List UInt8)×RS :=
 let n:=IntKind.i32.wrap (rdN 4 s).1
 if n=-1 then (some [],(rdN 4 s).2) else qG n (rdN 4 s).2
def xJ (s:RS):Option (List UInt8)×RS:=if (rdCl s).1=-1 then (some [],(rdCl s).2) else qG (rdCl s).1 (rdCl s).2
def zQ (s:RS):Option (List UInt8)×RS:=if (rdCl s).1<0 then (none,(rdCl s).2) else qG (rdCl s).1 (rdCl s).2
def jA (s:RS):Int×RS :=
 let n:=IntKind.i32.wrap (IntKind.i32.wrap (rdUv s).1-1)
 if ((rdUv s).2.src.length:Int)<n then (0,RS.fail) else (n,(rdUv s).2)
theorem kH2 {s:RS} {l:List UInt8} (h:(qG 16 s).1=some l):l.length=16:=by
 unfold qG at h
 split at h
 ·simp at h
 ·simp only at h
  split at h
  ·simp at h
  ·simp only [Option.some.injEq] at h;subst h;simp;omega
theorem kFI (s:RS):(wD s).1.length=16:=by
 unfold wD
 cases h:(qG 16 s).1 with
 | none=>simp
 | some l=>simpa using kH2 h
theorem IsRd.kQN {S S':List Nat} {w w':World} {rb:Nat} {s:RS} (h:IsRd S w rb s) (hm:Mod [] w w') (hS :∀x∈S',x∈S∨w.heap.size≤x):IsRd S' w' rb s:=by
 obtain ⟨base,len,cap,h1,h2,h3,h4⟩:=h.ex
 refine ⟨⟨base,len,cap,h1.mod hm (by simp),h2.mod hm (by simp),h3,fun a ha=>?_⟩,h.short⟩
 obtain ⟨k1,k2,k3⟩:=h4 a ha
 refine ⟨k1,fun hx=>?_,Nat.lt_of_lt_of_le k3 hm.size⟩
 rcases hS _ hx with hx|hx
 ·exact k2 hx
 ·omega
theorem IsRd.kM9 {S S':List Nat} {w:World} {rb:Nat} {s:RS} (h:IsRd S w rb s) (hS :∀x∈S',x∈S):IsRd S' w rb s:=by
 obtain ⟨base,len,cap,h1,h2,h3,h4⟩:=h.ex
 exact ⟨⟨base,len,cap,h1,h2,h3,fun a ha=>⟨(h4 a ha).1,fun hx=>(h4 a ha).2.1 (hS _ hx),(h4 a ha).2.2⟩⟩,h.short⟩
section
variable {P:Program} {F:Nat→Nat}
theorem kLU (hm:P.follows .mixedOrders=true) (h:kH P (F kHP)=some (ir_rUuid F)) (hsp:kH P (F zF)=some (ir_rSpan F)) :
  RdC P (F kHP) fun s=>(.agg (u8s (wD s).1).toArray,(wD s).2):=by
 intro S w rb s hr hS
 unfold ir_rUuid at h
 have hz:([.int .u8 0,.int .u8 0,.int .u8 0,.int .u8 0,.int .u8 0,.int .u8 0,.int .u8 0,.int .u8 0,.int .u8 0,.int .u8 0,.int .u8 0,.int .u8 0,.int .u8 0,.int .u8 0,.int .u8 0,.int .u8 0]:List Value)=u8s (List.replicate 16 0):=by rfl
 rw [hz] at h
 refine kT h hm (by simp) ?_
 have a0:qE [.pointer (some ⟨rb,0,none⟩)] 0=.pointer (some ⟨rb,0,none⟩):=rfl
 generalize qE [.pointer (some ⟨rb,0,none⟩)]=σ0 at a0 ⊢
 have hrlt:=hr.lt
 rw [wpC_seq,kD]
 refine kX ?_
 intro T2
 have b2:=Blk.new w (u8s (List.replicate 16 0)) T2
 have m1:Mod [] w (w.alloc (.cells (u8s (List.replicate 16 0)).toArray T2)):=Mod.alloc _ _ _
 have z1:(w.alloc (.cells (u8s (List.replicate 16 0)).toArray T2)).heap.size=w.heap.size+1:=by simp
 generalize w.alloc (.cells (u8s (List.replicate 16 0)).toArray T2)=w1 at b2 m1 z1 ⊢
 refine kE ?_
 rw [wpC_seq,kD]
 refine kX ?_
 intro T3
 have b3:=Blk.new w1 (u8s (List.replicate 16 0)) T3
 have m2:Mod [] w1 (w1.alloc (.cells (u8s (List.replicate 16 0)).toArray T3)):=Mod.alloc _ _ _
 have z2:(w1.alloc (.cells (u8s (List.replicate 16 0)).toArray T3)).heap.size=w1.heap.size+1:=by simp
 generalize w1.alloc (.cells (u8s (List.replicate 16 0)).toArray T3)=w2 at b3 m2 z2 ⊢
 refine kE ?_
 rw [wpC_seq]
 generalize hσ:updo _ (some 3) _=σ1
 have k0:σ1 0=.pointer (some ⟨rb,0,none⟩):=by rw [←hσ];simp [updo,upd,a0]
 have k2:σ1 2=.pointer (some ⟨w.heap.size,0,none⟩):=by rw [←hσ];simp [updo,upd]
 have k3:σ1 3=.pointer (some ⟨w1.heap.size,0,none⟩):=by rw [←hσ];simp [updo,upd]
 clear hσ
 have md:Mod [] w2 w2.drew:=Mod.drew _ _
 have m02:Mod [] w w2.drew:=(m1.trans m2).trans md
 have hrd:IsRd (w.heap.size::w1.heap.size::S) w2.drew rb s:=hr.kQN m02 (fun x hx=>by
  rcases List.mem_cons.1 hx with rfl|hx
  ·exact .inr (Nat.le_refl _)
  ·rcases List.mem_cons.1 hx with rfl|hx
   ·exact .inr (by omega)
   ·exact .inl hx)
 have b3d:Blk w2.drew w1.heap.size (u8s (List.replicate 16 0)):=b3.of_heap rfl
 have b2d:Blk w2.drew w.heap.size (u8s (List.replicate 16 0)):=(b2.mod m2 (by simp)).of_heap rfl
 show wpD P _ _ _ w2.drew _
 generalize w2.drew=wd at md m02 hrd b3d b2d ⊢
 generalize hS':w.heap.size::w1.heap.size::S=S' at hrd
 refine ⟨fun u v=>Mod [rb] u v∧(IsRd S' u rb (qG 16 s).2→IsRd S' v rb (qG 16 s).2),fun _ v w'=>OctX (rb::S') w' v (qG 16 s).1∧IsRd S' w' rb (qG 16 s).2,fun j w'=>j=2→w'=wd,
  fun _=>⟨Mod.refl _ _,fun h=>h⟩,fun _ _ _ h1 h2=>⟨h1.1.trans h2.1,fun h=>h2.2 (h1.2 h)⟩,fun _ v w' w'' h1 h2=>⟨OctX.mod h1.1 h2.1 (by simp),h2.2 h1.2⟩,fun _ _=>rfl,?_⟩
 refine kFC (v:=.slice (some ⟨w1.heap.size,0,none⟩) 16 16) (fun _ _=>by simp only [RK.val?,ev,k3]) ?_
 refine kFC (v:=.pointer (some ⟨rb,0,none⟩)) (fun _ _=>by simp only [RK.val?,ev,updo,upd];simp [k0]) ?_
 refine kLP (fun w3 hR hN _=>?_) fun v hv=>?_
 ·have hN:=hN rfl
  subst hN
  have hc:=zV hm hsp hrd 16
  simp only [RK.run]
  have ha:([.tmp 5,.const (.int .i64 16)]:List Operand).map (ev (updo (updo σ1 (some 4) (.slice (some ⟨w1.heap.size,0,none⟩) 16 16)) (some 5) (.pointer (some ⟨rb,0,none⟩))))=[.pointer (some ⟨rb,0,none⟩),.int .i64 16]:=by
   simp only [List.map_cons,List.map_nil,ev,updo,upd,if_true]
  rw [ha]
  refine hc.mono ?_
  rintro e w4 ⟨v,rfl,h1,h2,h3⟩
  exact ⟨v,rfl,⟨h3,fun _=>h2⟩,⟨h1,h2⟩,fun j hj _ h=>absurd h hj⟩
 simp only [walk]
 intro w4 hR hk
 have hk2:=hk 2 (by simp) _ rfl rfl rfl 6 rfl
 obtain ⟨ho,hr4⟩:=hk2
 have e6:updo (updo (updo σ1 (some 4) (.slice (some ⟨w1.heap.size,0,none⟩) 16 16)) (some 5) (.pointer (some ⟨rb,0,none⟩))) (some 6) v 6=v:=by simp only [updo,upd,if_true]
 rw [e6] at ho
 have nb3:w1.heap.size≠rb:=by omega
 have b34:Blk w4 w1.heap.size (u8s (List.replicate 16 0)):=b3d.mod hR.1 (by simpa using nb3)
 have b24:Blk w4 w.heap.size (u8s (List.replicate 16 0)):=b2d.mod hR.1 (by simp;omega)
 -- what is copied
 obtain ⟨n,src,hsrc,hsrc2,hn1,hn2⟩ :∃n src,qI w4 1 v=some (n,src)∧splice (u8s (List.replicate 16 0)) 0 (src.take (Nat.min n 16*1))=u8s (wD s).1∧(src.take (Nat.min n 16*1)).length≤16 ∧∀y∈src.take (Nat.min n 16*1),y.oneCell'=true:=by
  obtain ⟨h1,-⟩:=ho
  unfold wD
  cases hd:(qG 16 s).1 with
  | none =>
    rw [hd] at h1
    have:v=.slice none 0 0:=h1
    subst this
    exact ⟨0,[],rfl,by simp [splice],by simp,by simp⟩
  | some l =>
    rw [hd] at h1
    obtain ⟨a,len,cap,rfl,hb⟩:=h1
    have hl16:=kH2 hd
    have hlen:=hb.hlen
    have e16:len=16:=by omega
    subst e16
    refine ⟨16,u8s l,?_,?_,?_,?_⟩
    ·simp only [qI]
     rw [kJ (hb.hcells a rfl) (by rw [kY];omega)];rfl
    ·have:(u8s l).take (Nat.min 16 16*1)=u8s l:=List.take_of_length_le (by rw [kY];simp;omega)
     rw [this,jW (by simp [kY];omega)];rfl
    ·simp;omega
    ·intro y hy
     have:=List.mem_of_mem_take hy
     simp [u8s] at this;obtain ⟨b,-,rfl⟩:=this;rfl
 refine kX ?_
 have e4:ev (updo (updo (updo σ1 (some 4) (.slice (some ⟨w1.heap.size,0,none⟩) 16 16)) (some 5) (.pointer (some ⟨rb,0,none⟩))) (some 6) v) (.tmp 4)=.slice (some ⟨w1.heap.size,0,none⟩) 16 16:=by simp [ev,updo,upd]
 have e6':ev (updo (updo (updo σ1 (some 4) (.slice (some ⟨w1.heap.size,0,none⟩) 16 16)) (some 5) (.pointer (some ⟨rb,0,none⟩))) (some 6) v) (.tmp 6)=v:=e6
 simp only [RK.run,e4,e6',hsrc]
 have hput:Mod [w1.heap.size] w4 (putCells w4 ⟨w1.heap.size,0,none⟩ 0 (src.take (Nat.min n 16*1))):=Mod.put (by simp)
 have hp:=b34.put (o:=0) (vs:=src.take (Nat.min n 16*1)) (by rw [kY,List.length_replicate];omega)
 rw [hsrc2] at hp
 refine ⟨qL b34 (by simp only [kY,List.length_replicate];omega) hn2,?_⟩
 refine kE ?_
 have hl:=kFI s
 rw [wpC_seq,kD]
 refine kC (v:=.agg (u8s (wD s).1).toArray) (by
  simp only [RK.val?,ev,updo,upd,show (3:Nat)≠7 by decide,show (3:Nat)≠6 by decide,show (3:Nat)≠5 by decide,show (3:Nat)≠4 by decide,if_false,k3]
  rw [kJ hp.cells (n:=16) (by rw [kY];omega)];rfl) ?_
 refine kX ?_
 have ec:(Value.agg (u8s (wD s).1).toArray).cells=(u8s (wD s).1).toArray:=rfl
 have hne2:w.heap.size≠w1.heap.size:=by omega
 have b25:=b24.mod hput (by simpa using hne2)
 generalize hw5:putCells w4 ⟨w1.heap.size,0,none⟩ 0 (src.take (Nat.min n 16*1))=w5 at hput hp b25 ⊢
 have hput2:Mod [w.heap.size] w5 (putCells w5 ⟨w.heap.size,0,none⟩ 0 (u8s (wD s).1)):=Mod.put (by simp)
 have hp2:=b25.put (o:=0) (vs:=u8s (wD s).1) (by simp [kY];omega)
 rw [jW (by simp [kY];omega)] at hp2
 simp only [RK.run,ev,updo,upd,if_true,show (2:Nat)≠8 by decide,show (2:Nat)≠7 by decide,show (2:Nat)≠6 by decide,show (2:Nat)≠5 by decide,show (2:Nat)≠4 by decide,if_false,k2,ec]
 refine ⟨by simp [kY,hl],qL b25 (by simp [kY];omega) (by
  intro y hy
  simp [u8s] at hy;obtain ⟨b,-,rfl⟩:=hy;rfl),?_⟩
 refine kE ?_
 simp only [wpC,postC,rvals,List.mapM_cons,List.mapM_nil,RV.val,upd,show (2:Nat)≠8 by decide,show (2:Nat)≠7 by decide,show (2:Nat)≠6 by decide,show (2:Nat)≠5 by decide,show (2:Nat)≠4 by decide,if_false,k2,kJ hp2.cells (n:=16) (by rw [kY];omega),Option.bind_eq_bind,Option.map_some,Option.bind_some,Option.pure_def,zR]
 subst hS'
 refine ⟨trivial,((hr4.mod hput (by simpa using nb3.symm) (by simp)).mod hput2 (by simp;omega) (by simp)).kM9 (by simp;intro x hx;exact .inr (.inr hx)),?_⟩
 refine Mod.drop (b:=w.heap.size) (S:=[rb]) ?_ (Nat.le_refl _)
 refine Mod.drop (b:=w1.heap.size) (S:=[w.heap.size,rb]) ?_ (by omega)
 exact ((m02.mono (by simp)).trans (hR.1.mono (by simp))).trans ((hput.mono (by simp)).trans (hput2.mono (by simp)))
theorem qX {n:Int} (h1:-9223372036854775808≤n) (h2:n<9223372036854775808):IntKind.i64.wrap n=n:=by
 simp [IntKind.wrap,IntKind.bits,IntKind.signed];omega
attribute [local simp] bnd wpC wpR RI.wp gOk RK.run kF kR updo upd ev qE postC rvals RV.val zR kL
theorem kDN (hm:P.follows .mixedOrders=true) (h:kH P (F jT)=some (ir_rReadUint64 F)) (hbe:kH P (F xG)=some (ir_beUint64 F)) :
  RdC P (F jT) fun s=>(.int .u64 (rdN 8 s).1,(rdN 8 s).2):=by
 intro S w rb s hr hS
 obtain ⟨base,len,cap,h1,h2,h3,h4⟩:=hr.ex
 refine kT h hm (by simp) ?_
 have hlen:=h2.hlen
 have c0:w.cell? ⟨rb,0,none⟩=some (.slice base len cap):=h1.cell 0
 by_cases hlt:len<8
 ·have hlt':(len:Int)<8:=by omega
  obtain ⟨f1,f2,f3,f4⟩:=vV (S:=S) h1
  have hv:rdN 8 s=(0,RS.fail):=by unfold rdN;rw [if_neg (by omega)]
  simp [Addr.kK,c0,hlt',Value.cells,f1,f2,f3,f4,hv]
 ·have hlt' :¬(len:Int)<8:=by omega
  have hv:rdN 8 s=(beNat (s.src.take 8),{s with src:=s.src.drop 8}):=by unfold rdN;rw [if_pos (by omega)]
  simp [Addr.kK,c0,hlt']
  obtain ⟨a,rfl⟩ :∃a,base=some a:=by
   cases base with
   | some a=>exact ⟨a,rfl⟩
   | none=>have:=h2.hnone rfl;have:=h2.hcap;omega
  refine kGC (.int .u64 (beNat (s.src.take 8):Nat)) ?_
  have c0':w.drew.cell? ⟨rb,0,none⟩=some (.slice (some a) len cap):=c0
  simp [j4,RK.val?,Addr.kK,c0',kV]
  refine ⟨fun w1 hw=>?_,fun w1 hw=>?_⟩
  ·have hw':Mod [] w w1:=(Mod.drew _ _).trans hw
   exact (kGM (w:=w1) hm hbe (h2.mod hw' (by simp)) (by omega)).mono fun e w' h=>h
  ·have hw':Mod [] w w1:=(Mod.drew _ _).trans hw
   have c1:w1.cell? ⟨rb,0,none⟩=some (.slice (some a) len cap):=(h1.mod hw' (by simp)).cell 0
   obtain ⟨g1,g2,g3⟩:=kDE (S:=S) (h1.mod hw' (by simp)) (h2.mod hw' (by simp)) h3 (fun a h=>⟨(h4 a h).1,(h4 a h).2.1,Nat.lt_of_lt_of_le (h4 a h).2.2 hw'.size⟩) hr.short (k:=8) (by omega)
   have hcap:=h2.hcap
   simp [c1,Value.cells,hv]
   simp at g1 g2 g3
   exact ⟨by omega,by omega,g1,g2,hw'.nil.trans g3⟩
theorem kJO (hm:P.follows .mixedOrders=true) (h:kH P (F kDF)=some (ir_rInt64 F)) (h64:kH P (F jT)=some (ir_rReadUint64 F)) (hbe:kH P (F xG)=some (ir_beUint64 F)) :
 RdC P (F kDF) fun s=>(.int .i64 (IntKind.i64.wrap (rdN 8 s).1),(rdN 8 s).2):=by
 intro S w rb s hr hS
 refine kT h hm (by simp) ?_
 simp []
 refine (kDN hm h64 hbe S w rb s hr hS).mono ?_
 rintro e w1 ⟨rfl,hr1,hm1⟩
 simp [hr1,hm1]
theorem kBT (hm:P.follows .mixedOrders=true) (h:kH P (F jE)=some (ir_rCompactString F)) (huv:kH P (F qB)=some (ir_rUvarint F)) (hk:kH P (F qH)=some (ir_kUvarint F))
 (hsp:kH P (F zF)=some (ir_rSpan F)):RdC P (F jE) fun s=>(str (jZ s).1,(jZ s).2):=by
 intro S w rb s hr hS
 refine kT h hm (by simp) ?_
 simp []
 refine (zO hm huv hk S w rb s hr hS).mono ?_
 rintro e w1 ⟨rfl,hr1,hm1⟩
 have hlt:=xQ s
 simp [qX (n:=(rdUv s).1) (by omega) (by omega),qX (n:=((rdUv s).1:Int)-1) (by omega) (by omega)]
 refine (zV hm hsp hr1 _).mono ?_
 rintro e w2 ⟨v,rfl,ho,hr2,hm2⟩
 obtain ⟨base,n,c,rfl,hb⟩:=ho.bytes
 cases base with
 | none=>simp at hb;simp [jZ,rdCl,hb,str];exact ⟨rfl,hr2,hm1.trans hm2⟩
 | some a=>simp only at hb;simp [jZ,rdCl,hb,str];exact ⟨hr2,hm1.trans hm2⟩
theorem vX (hm:P.follows .mixedOrders=true) (h:kH P (F qU)=some (ir_rUnsafeCompactString F)) (huv:kH P (F qB)=some (ir_rUvarint F)) (hk:kH P (F qH)=some (ir_kUvarint F))
 (hsp:kH P (F zF)=some (ir_rSpan F)) (hus:kH P (F qC)=some (ir_kUnsafeString F)):RdC P (F qU) fun s=>(str (jZ s).1,(jZ s).2):=by
 intro S w rb s hr hS
 refine kT h hm (by simp) ?_
 simp []
 refine (zO hm huv hk S w rb s hr hS).mono ?_
 rintro e w1 ⟨rfl,hr1,hm1⟩
 have hlt:=xQ s
 simp [qX (n:=(rdUv s).1) (by omega) (by omega),qX (n:=((rdUv s).1:Int)-1) (by omega) (by omega)]
 refine (zV hm hsp hr1 _).mono ?_
 rintro e w2 ⟨v,rfl,ho,hr2,hm2⟩
 simp
 refine (yH hm hus ho).mono ?_
 rintro e w3 ⟨rfl,rfl⟩
 simp [jZ,rdCl]
 exact ⟨hr2,hm1.trans hm2⟩
theorem vL (hm:P.follows .mixedOrders=true) (h:kH P (F qP)=some (ir_rCompactNullableBytes F)) (huv:kH P (F qB)=some (ir_rUvarint F)) (hk:kH P (F qH)=some (ir_kUvarint F))
  (hsp:kH P (F zF)=some (ir_rSpan F)) {w:World} {S:List Nat} {rb:Nat} {s:RS} (hr:IsRd S w rb s) (hS:rb ∉ S) :
  Calls P (F qP) [.pointer (some ⟨rb,0,none⟩)].toArray w fun e w' =>∃v,e=.returned v∧OctX (rb::S) w' v (zQ s).1∧IsRd S w' rb (zQ s).2∧Mod [rb] w w':=by
 refine kT h hm (by simp) ?_
 simp []
 refine (zO hm huv hk S w rb s hr hS).mono ?_
 rintro e w1 ⟨rfl,hr1,hm1⟩
 have hlt:=xQ s
 by_cases hn:((rdUv s).1:Int)-1<0
 ·have hv:zQ s=(none,(rdUv s).2):=by unfold zQ;rw [if_pos (by simpa [rdCl] using hn)];rfl
  simp [qX (n:=(rdUv s).1) (by omega) (by omega),qX (n:=((rdUv s).1:Int)-1) (by omega) (by omega),hn,hv]
  exact ⟨⟨rfl,fun a n c h=>by simp at h⟩,hr1,hm1⟩
 ·have hv:zQ s=qG (((rdUv s).1:Int)-1) (rdUv s).2:=by unfold zQ;rw [if_neg (by simpa [rdCl] using hn)];rfl
  simp [qX (n:=(rdUv s).1) (by omega) (by omega),qX (n:=((rdUv s).1:Int)-1) (by omega) (by omega),hn,hv]
  refine (zV hm hsp hr1 _).mono ?_
  rintro e w2 ⟨v,rfl,ho,hr2,hm2⟩
  simp
  exact ⟨ho,hr2,hm1.trans hm2⟩
theorem kH3 {S:List Nat} {w:World} {T:TypeId} (hS :∀x∈S,x<w.heap.size):OctX S (w.alloc (.cells [].toArray T)) (.slice (some ⟨w.heap.size,0,none⟩) 0 0) (some []):=by
 have hb:=Blk.new w [] T
 refine ⟨⟨⟨w.heap.size,0,none⟩,0,0,rfl,⟨rfl,Nat.le_refl _,fun h=>by simp at h,fun a ha=>?_⟩⟩,fun a n c h=>?_⟩
 ·simp only [Option.some.injEq] at ha;subst ha
  exact hb.cells
 ·simp only [Value.slice.injEq,Option.some.injEq] at h
  rw [←h.1]
  exact ⟨fun hx=>by have:=hS _ hx;simp at this,hb.lt⟩
theorem kJP (hm:P.follows .mixedOrders=true) (h:kH P (F kDG)=some (ir_rBytes F)) (h32:kH P (F y8)=some (ir_rInt32 F)) (hbe:kH P (F jD)=some (ir_beUint32 F))
  (hsp:kH P (F zF)=some (ir_rSpan F)) {w:World} {S:List Nat} {rb:Nat} {s:RS} (hr:IsRd S w rb s) (hS:rb ∉ S) (hSl :∀x∈S,x<w.heap.size) :
  Calls P (F kDG) [.pointer (some ⟨rb,0,none⟩)].toArray w fun e w' =>∃v,e=.returned v∧OctX (rb::S) w' v (wZ s).1∧IsRd S w' rb (wZ s).2∧Mod [rb] w w':=by
 refine kT h hm (by simp) ?_
 simp []
 refine (uS hm h32 hbe S w rb s hr hS).mono ?_
 rintro e w1 ⟨rfl,hr1,hm1⟩
 by_cases hn:IntKind.i32.wrap (rdN 4 s).1=-1
 ·have hv:wZ s=(some [],(rdN 4 s).2):=by unfold wZ;simp only;rw [if_pos hn]
  have hoe:=fun T=>kH3 (S:=rb::S) (w:=w1) (T:=T) (fun x hx=>by
   rcases List.mem_cons.1 hx with rfl|hx
   ·exact hr1.lt
   ·exact Nat.lt_of_lt_of_le (hSl x hx) hm1.size)
  simp [hn,hv,zrep,zW]
  exact fun T=>⟨hoe T,hr1.mod (Mod.alloc [] _ _) (by simp) (by simp),hm1.trans (Mod.alloc _ _ _)⟩
 ·have hv:wZ s=qG (IntKind.i32.wrap (rdN 4 s).1) (rdN 4 s).2:=by unfold wZ;simp only;rw [if_neg hn]
  have hnb:(IntKind.i32.wrap (rdN 4 s).1==-1)=false:=by simpa using hn
  simp [hnb,hv,wM]
  refine (zV hm hsp hr1 _).mono ?_
  rintro e w2 ⟨v,rfl,ho,hr2,hm2⟩
  simp
  exact ⟨ho,hr2,hm1.trans hm2⟩
theorem kCG (hm:P.follows .mixedOrders=true) (h:kH P (F jQ)=some (ir_rCompactBytes F)) (huv:kH P (F qB)=some (ir_rUvarint F)) (hk:kH P (F qH)=some (ir_kUvarint F))
  (hsp:kH P (F zF)=some (ir_rSpan F)) {w:World} {S:List Nat} {rb:Nat} {s:RS} (hr:IsRd S w rb s) (hS:rb ∉ S) (hSl :∀x∈S,x<w.heap.size) :
  Calls P (F jQ) [.pointer (some ⟨rb,0,none⟩)].toArray w fun e w' =>∃v,e=.returned v∧OctX (rb::S) w' v (xJ s).1∧IsRd S w' rb (xJ s).2∧Mod [rb] w w':=by
 refine kT h hm (by simp) ?_
 simp []
 refine (zO hm huv hk S w rb s hr hS).mono ?_
 rintro e w1 ⟨rfl,hr1,hm1⟩
 have hlt:=xQ s
 by_cases hn:((rdUv s).1:Int)-1=-1
 ·have hv:xJ s=(some [],(rdUv s).2):=by unfold xJ;rw [if_pos (by simpa [rdCl] using hn)];rfl
  have hoe:=fun T=>kH3 (S:=rb::S) (w:=w1) (T:=T) (fun x hx=>by
   rcases List.mem_cons.1 hx with rfl|hx
   ·exact hr1.lt
   ·exact Nat.lt_of_lt_of_le (hSl x hx) hm1.size)
  simp [qX (n:=(rdUv s).1) (by omega) (by omega),hn,hv,zrep,zW]
  exact fun T=>⟨hoe T,hr1.mod (Mod.alloc [] _ _) (by simp) (by simp),hm1.trans (Mod.alloc _ _ _)⟩
 ·have hv:xJ s=qG (((rdUv s).1:Int)-1) (rdUv s).2:=by unfold xJ;rw [if_neg (by simpa [rdCl] using hn)];rfl
  have hnb:(((rdUv s).1:Int)-1==-1)=false:=by simpa using hn
  simp [qX (n:=(rdUv s).1) (by omega) (by omega),qX (n:=((rdUv s).1:Int)-1) (by omega) (by omega),hnb,hv]
  refine (zV hm hsp hr1 _).mono ?_
  rintro e w2 ⟨v,rfl,ho,hr2,hm2⟩
  simp
  exact ⟨ho,hr2,hm1.trans hm2⟩
theorem kAK (hm:P.follows .mixedOrders=true) (h:kH P (F zK)=some (ir_rCompactArrayLen F)) (huv:kH P (F qB)=some (ir_rUvarint F)) (hk:kH P (F qH)=some (ir_kUvarint F)) :
  RdC P (F zK) fun s=>(.int .i32 (jA s).1,(jA s).2):=by
 intro S w rb s hr hS
 refine kT h hm (by simp) ?_
 simp []
 refine (zO hm huv hk S w rb s hr hS).mono ?_
 rintro e w1 ⟨rfl,hr1,hm1⟩
 obtain ⟨base,len,cap,h1,h2,h3,h4⟩:=hr1.ex
 have c0:w1.cell? ⟨rb,0,none⟩=some (.slice base len cap):=h1.cell 0
 have hlen:=h2.hlen
 generalize hN:IntKind.i32.wrap (IntKind.i32.wrap (rdUv s).1-1)=N
 by_cases hlt:(len:Int)<N
 ·obtain ⟨f1,f2,f3,f4⟩:=vV (S:=S) h1
  have hv:jA s=(0,RS.fail):=by unfold jA;simp only;rw [hN,if_pos (by rw [←hlen];exact hlt)]
  simp [Addr.kK,c0,hN]
  rw [←hN,wM,hN]
  simp [hlt,Value.cells,f1,f2,hv]
  exact ⟨f3,hm1.trans f4⟩
 ·have hv:jA s=(N,(rdUv s).2):=by unfold jA;simp only;rw [hN,if_neg (by rw [←hlen];exact hlt)]
  simp [Addr.kK,c0,hN]
  rw [←hN,wM,hN]
  simp [hlt,hv]
  exact ⟨hr1,hm1⟩
end
section
variable {P:Program} {F:Nat→Nat}
attribute [local simp] bnd wpC wpR RI.wp gOk RK.run kF kR updo upd ev qE postC rvals RV.val zR kL
theorem vB {w:World} (hm:P.follows .mixedOrders=true) (h:kH P (F qM)=some (ir_rCompactNullableString F)) (huv:kH P (F qB)=some (ir_rUvarint F)) (hk:kH P (F qH)=some (ir_kUvarint F))
  (hsp:kH P (F zF)=some (ir_rSpan F)) {S:List Nat} {rb:Nat} {s:RS} (hr:IsRd S w rb s) (hS:rb ∉ S) :
  Calls P (F qM) [.pointer (some ⟨rb,0,none⟩)].toArray w fun e w' =>∃v,e=.returned v∧PStr w.heap.size w' v (kW s).1∧IsRd S w' rb (kW s).2∧Mod [rb] w w':=by
 refine kT h hm (by simp) ?_
 simp []
 refine (zO hm huv hk S w rb s hr hS).mono ?_
 rintro e w1 ⟨rfl,hr1,hm1⟩
 have hlt:=xQ s
 by_cases hn:((rdUv s).1:Int)-1<0
 ·have hv:kW s=(none,(rdUv s).2):=by unfold kW;rw [if_pos (by simpa [rdCl] using hn)];rfl
  simp [qX (n:=(rdUv s).1) (by omega) (by omega),qX (n:=((rdUv s).1:Int)-1) (by omega) (by omega),hn,hv]
  exact ⟨rfl,hr1,hm1⟩
 ·have hv:kW s=(some ((qG (((rdUv s).1:Int)-1) (rdUv s).2).1.getD []),(qG (((rdUv s).1:Int)-1) (rdUv s).2).2):=by unfold kW;rw [if_neg (by simpa [rdCl] using hn)];rfl
  simp [qX (n:=(rdUv s).1) (by omega) (by omega),qX (n:=((rdUv s).1:Int)-1) (by omega) (by omega),hn,hv]
  refine (zV hm hsp hr1 _).mono ?_
  rintro e w2 ⟨v,rfl,ho,hr2,hm2⟩
  obtain ⟨base,n,c,rfl,hb⟩:=ho.bytes
  simp only at hr1 hr2 hb
  generalize (qG (((rdUv s).1:Int)-1) (rdUv s).2).1.getD []=L at hb
  generalize (qG (((rdUv s).1:Int)-1) (rdUv s).2).2=s2 at hr2
  have hbox :∀T,_:=fun T=>wV w2 [.string .empty] [str L] T rfl (by simp [str,Value.oneCell'])
  have hfin :∀T,PStr w.heap.size (putCells (w2.alloc (.cells [.string .empty].toArray T)) ⟨w2.heap.size,0,none⟩ 0 [str L])
    (.pointer (some ⟨w2.heap.size,0,none⟩)) (some L):=fun T =>
   ⟨_,rfl,Nat.le_trans hm1.size hm2.size,(hbox T).2.1.cell 0⟩
  have hrd :∀T,IsRd S (putCells (w2.alloc (.cells [.string .empty].toArray T)) ⟨w2.heap.size,0,none⟩ 0 [str L]) rb s2 :=
   fun T=>hr2.mod (hbox T).2.2 (by simp) (by simp)
  have hmod :∀T,Mod [rb] w (putCells (w2.alloc (.cells [.string .empty].toArray T)) ⟨w2.heap.size,0,none⟩ 0 [str L]) :=
   fun T=>(hm1.trans hm2).trans (hbox T).2.2.nil
  cases base with
  | none =>
    simp only at hb
    rw [hb] at hbox hfin hrd hmod
    have e:str []=.string .empty:=rfl
    rw [e] at hbox hfin hrd hmod
    simp [hb,Value.cells]
    intro T
    exact ⟨(hbox T).1,hfin T,hrd T,hmod T⟩
  | some a =>
    simp only at hb
    simp [hb,Value.cells]
    intro T
    exact ⟨(hbox T).1,hfin T,hrd T,hmod T⟩
theorem xK {w:World} (hm:P.follows .mixedOrders=true) (h:kH P (F qD)=some (ir_rUnsafeCompactNullableString F)) (huv:kH P (F qB)=some (ir_rUvarint F)) (hk:kH P (F qH)=some (ir_kUvarint F))
  (hsp:kH P (F zF)=some (ir_rSpan F)) (hus:kH P (F qC)=some (ir_kUnsafeString F)) {S:List Nat} {rb:Nat} {s:RS} (hr:IsRd S w rb s) (hS:rb ∉ S) :
  Calls P (F qD) [.pointer (some ⟨rb,0,none⟩)].toArray w fun e w' =>∃v,e=.returned v∧PStr w.heap.size w' v (kW s).1∧IsRd S w' rb (kW s).2∧Mod [rb] w w':=by
 refine kT h hm (by simp) ?_
 simp []
 refine (zO hm huv hk S w rb s hr hS).mono ?_
 rintro e w1 ⟨rfl,hr1,hm1⟩
 have hlt:=xQ s
 by_cases hn:((rdUv s).1:Int)-1<0
 ·have hv:kW s=(none,(rdUv s).2):=by unfold kW;rw [if_pos (by simpa [rdCl] using hn)];rfl
  simp [qX (n:=(rdUv s).1) (by omega) (by omega),qX (n:=((rdUv s).1:Int)-1) (by omega) (by omega),hn,hv]
  exact ⟨rfl,hr1,hm1⟩
 ·have hv:kW s=(some ((qG (((rdUv s).1:Int)-1) (rdUv s).2).1.getD []),(qG (((rdUv s).1:Int)-1) (rdUv s).2).2):=by unfold kW;rw [if_neg (by simpa [rdCl] using hn)];rfl
  simp [qX (n:=(rdUv s).1) (by omega) (by omega),qX (n:=((rdUv s).1:Int)-1) (by omega) (by omega),hn,hv]
  refine (zV hm hsp hr1 _).mono ?_
  rintro e w2 ⟨v,rfl,ho,hr2,hm2⟩
  simp only at hr1 hr2
  simp
  refine (yH hm hus ho).mono ?_
  rintro e w3 ⟨rfl,rfl⟩
  simp [Value.cells,str]
  intro T
  obtain ⟨b1,b2,b3⟩:=wV w3 [.string .empty] [str ((qG (((rdUv s).1:Int)-1) (rdUv s).2).1.getD [])] T rfl (by simp [str,Value.oneCell'])
  exact ⟨b1,⟨_,rfl,Nat.le_trans hm1.size hm2.size,b2.cell 0⟩,hr2.mod b3 (by simp) (by simp),(hm1.trans hm2).trans b3.nil⟩
end
end Go.Msk
namespace Go.Msk
def ir_iBoolTree (_F:Nat→Nat):IC×List RV×Nat:=(.seq (.blk [⟨some 2,.alloc [.int .i64 0,.slice none 0 0,.bool false,.slice none 0 0,.slice none 0 0],none⟩])
 (.seq (.seq (.blk [⟨some 3,.mv (.tmp 0),none⟩]) (.cond (.tmp 3)
 (.seq (.blk [⟨some 4,.build [.int .i64 0,.slice none 0 0,.bool false,.slice none 0 0,.slice none 0 0] [(0,1,.const (.int .i64 1))],none⟩,⟨none,.st (.tmp 2) 5 (.tmp 4),none⟩])
 (.ret)) (.skip))) (.seq (.blk [⟨some 5,.build [.int .i64 0,.slice none 0 0,.bool false,.slice none 0 0,.slice none 0 0] [],none⟩,⟨none,.st (.tmp 2) 5 (.tmp 5),none⟩]) (.ret))),
 [.cells 2 5],6)
def ir_tSet (_F:Nat→Nat):IC×List RV×Nat:=(.seq (.seq (.blk [⟨some 6,.mv (.tmp 0),none⟩,⟨some 7,.nilc (.tmp 6),none⟩,⟨some 8,.fad (.tmp 7) 0,none⟩,⟨some 9,.ld (.tmp 8),none⟩,
 ⟨some 10,.isnil .mp false (.tmp 9),none⟩]) (.cond (.tmp 10) (.blk [⟨some 11,.mv (.tmp 0),none⟩,⟨some 12,.mkmap,none⟩,⟨some 13,.nilc (.tmp 11),none⟩,
 ⟨some 14,.fad (.tmp 13) 0,none⟩,⟨none,.st (.tmp 14) 1 (.tmp 12),none⟩]) (.skip))) (.blk [⟨some 15,.mv (.tmp 0),none⟩,⟨some 16,.nilc (.tmp 15),none⟩,
 ⟨some 17,.fad (.tmp 16) 0,none⟩,⟨some 18,.ld (.tmp 17),none⟩,⟨some 19,.mv (.tmp 1),none⟩,⟨some 20,.mv (.tmp 2),none⟩,⟨none,.mapup (.tmp 18) (.tmp 19) (.tmp 20),none⟩]),[],21)
def ir_tEach (F:Nat→Nat):IC×List RV×Nat:=(.seq (.seq (.blk [⟨some 8,.mv (.tmp 0),none⟩,⟨some 9,.nilc (.tmp 8),none⟩,⟨some 10,.fad (.tmp 9) 0,none⟩,⟨some 11,.ld (.tmp 10),none⟩,
 ⟨some 12,.mlen (.tmp 11),none⟩,⟨some 13,.bin .eql (.tmp 12) (.const (.int .i64 0)),none⟩]) (.cond (.tmp 13) (.ret) (.skip))) (.seq (.blk [⟨some 14,.mv (.tmp 0),none⟩,
 ⟨some 15,.nilc (.tmp 14),none⟩,⟨some 16,.fad (.tmp 15) 0,none⟩,⟨some 17,.ld (.tmp 16),none⟩,⟨some 18,.mlen (.tmp 17),none⟩,
 ⟨some 19,.mkslice (.const (.int .i64 0)) (.tmp 18) 4 [.int .u32 0],none⟩,⟨some 4,.alloc [.slice none 0 0],none⟩,⟨none,.st (.tmp 4) 1 (.tmp 19),none⟩])
 (.seq (.seq (.blk [⟨some 20,.mv (.tmp 0),none⟩,⟨some 21,.nilc (.tmp 20),none⟩,⟨some 22,.fad (.tmp 21) 0,none⟩,⟨some 23,.ld (.tmp 22),none⟩,⟨some 24,.mrng (.tmp 23),none⟩])
 (.block 0 (.loop (.seq (.blk [⟨some 25,.mnext (.tmp 24),none⟩,⟨some 26,.ext (.tmp 25) 0,none⟩]) (.seq (.cond (.tmp 26) (.skip) (.exit 0))
 (.block 1 (.seq (.blk [⟨some 27,.mentry (.tmp 24),none⟩,⟨some 28,.ext (.tmp 27) 0,none⟩,⟨some 5,.mv (.tmp 28),none⟩]) (.blk [⟨some 29,.ld (.tmp 4),none⟩,
 ⟨some 30,.mv (.tmp 5),none⟩,⟨some 31,.bslice 1 [.int .u32 0] [(0,1,.tmp 30)],none⟩,⟨some 32,.append (.tmp 29) (.tmp 31) 1 4,none⟩,⟨none,.st (.tmp 4) 1 (.tmp 32),none⟩]))))))))
 (.seq (.blk [⟨some 33,.ld (.tmp 4),none⟩,⟨some 34,.mkif (F kAH) (.tmp 33),none⟩,⟨some 35,.mkfunc (.func (F wW)) [] [.tmp 4],none⟩,⟨some 36,.call (F uC) [.tmp 34,.tmp 35],none⟩])
 (.seq (.blk [⟨some 37,.ld (.tmp 4),none⟩,⟨some 38,.len (.tmp 37),none⟩,⟨some 39,.mv (.const (.int .i64 0)),none⟩])
 (.block 2 (.loop (.seq (.blk [⟨some 40,.bin .lss (.tmp 39) (.tmp 38),none⟩]) (.seq (.cond (.tmp 40) (.skip) (.exit 2))
 (.seq (.block 3 (.seq (.blk [⟨some 41,.iad (.tmp 37) (.tmp 39) 1,none⟩,⟨some 42,.ld (.tmp 41),none⟩,⟨some 7,.mv (.tmp 42),none⟩]) (.blk [⟨some 43,.mv (.tmp 1),none⟩,
 ⟨some 44,.mv (.tmp 7),none⟩,⟨some 45,.mv (.tmp 0),none⟩,⟨some 46,.nilc (.tmp 45),none⟩,⟨some 47,.fad (.tmp 46) 0,none⟩,⟨some 48,.ld (.tmp 47),none⟩,⟨some 49,.mv (.tmp 7),none⟩,
 ⟨some 50,.mlook (.tmp 48) (.tmp 49) (.slice none 0 0),none⟩,⟨some 51,.callv (.tmp 43) [.tmp 44,.tmp 50],none⟩]))) (.blk [⟨some 52,.bin .add (.tmp 39) (.const (.int .i64 1)),none⟩,
 ⟨some 39,.mv (.tmp 52),none⟩])))))))))),[],53)
def ir_tEach1 (_F:Nat→Nat):IC×List RV×Nat:=(.seq (.blk [⟨some 5,.mv (.const (.bool false)),none⟩]) (.seq (.drw [⟨⟨some 6,.ld (.tmp 2),none⟩,false,[]⟩,
 ⟨⟨some 7,.mv (.tmp 0),none⟩,false,[]⟩,⟨⟨some 8,.iad (.tmp 6) (.tmp 7) 1,none⟩,false,[]⟩,⟨⟨some 9,.ld (.tmp 8),none⟩,false,[]⟩,⟨⟨some 10,.ld (.tmp 2),none⟩,false,[]⟩,
 ⟨⟨some 11,.mv (.tmp 1),none⟩,false,[]⟩,⟨⟨some 12,.iad (.tmp 10) (.tmp 11) 1,none⟩,false,[]⟩,⟨⟨some 13,.ld (.tmp 12),none⟩,false,[]⟩,
 ⟨⟨some 14,.bin .lss (.tmp 9) (.tmp 13),none⟩,false,[]⟩,⟨⟨some 5,.mv (.tmp 14),none⟩,false,[]⟩] []) (.ret)),[.tmp 5],15)
def ir_tRead (F:Nat→Nat):IC×List RV×Nat:=(.seq (.blk [⟨some 2,.alloc [.map none],none⟩]) (.seq (.blk [⟨some 3,.alloc [.map none],none⟩])
 (.seq (.seq (.blk [⟨some 7,.mv (.tmp 0),none⟩,⟨some 8,.call (F qB) [.tmp 7],none⟩,⟨some 4,.mv (.tmp 8),none⟩]) (.block 0 (.loop (.seq (.seq (.blk [⟨some 9,.mv (.tmp 4),none⟩,
 ⟨some 10,.bin .gtr (.tmp 9) (.const (.int .u32 0)),none⟩]) (.cond (.tmp 10) (.skip) (.exit 0))) (.seq (.block 1 (.seq (.blk [⟨some 13,.mv (.tmp 0),none⟩,
 ⟨some 14,.call (F qB) [.tmp 13],none⟩,⟨some 15,.mv (.tmp 0),none⟩,⟨some 16,.call (F qB) [.tmp 15],none⟩,⟨some 5,.mv (.tmp 14),none⟩,⟨some 6,.mv (.tmp 16),none⟩])
 (.blk [⟨some 17,.mv (.tmp 5),none⟩,⟨some 18,.mv (.tmp 0),none⟩,⟨some 19,.mv (.tmp 6),none⟩,⟨some 20,.conv .i64 (.tmp 19),none⟩,⟨some 21,.call (F zF) [.tmp 18,.tmp 20],none⟩,
 ⟨some 22,.call (F tSet) [.tmp 3,.tmp 17,.tmp 21],none⟩]))) (.blk [⟨some 11,.mv (.tmp 4),none⟩,⟨some 12,.bin .sub (.tmp 11) (.const (.int .u32 1)),none⟩,
 ⟨some 4,.mv (.tmp 12),none⟩])))))) (.seq (.blk [⟨some 23,.ldn (.tmp 3) 1,none⟩,⟨none,.st (.tmp 2) 1 (.tmp 23),none⟩]) (.ret)))),[.cells 2 1],24)
def ir_iSorted (_F:Nat→Nat):IC×List RV×Nat:=(.seq (.blk [⟨some 4,.mv (.tmp 0),none⟩,⟨some 5,.len (.tmp 4),none⟩,⟨some 6,.mv (.const (.int .i64 0)),none⟩])
 (.block 0 (.loop (.seq (.blk [⟨some 7,.bin .lss (.tmp 6) (.tmp 5),none⟩]) (.seq (.cond (.tmp 7) (.skip) (.exit 0)) (.seq (.block 1 (.seq (.blk [⟨some 8,.mv (.tmp 6),none⟩,
 ⟨some 2,.mv (.tmp 8),none⟩]) (.seq (.blk [⟨some 9,.mv (.tmp 2),none⟩,⟨some 3,.mv (.tmp 9),none⟩]) (.block 2 (.loop (.seq (.seq (.drw [⟨⟨some 10,.mv (.tmp 3),none⟩,false,[]⟩,
 ⟨⟨some 11,.bin .gtr (.tmp 10) (.const (.int .i64 0)),none⟩,false,[]⟩,⟨⟨some 12,.mv (.tmp 11),none⟩,false,[]⟩,⟨⟨some 13,.mv (.tmp 0),some (12,true)⟩,false,[]⟩,
 ⟨⟨some 14,.mv (.tmp 3),some (12,true)⟩,false,[]⟩,⟨⟨some 15,.iad (.tmp 13) (.tmp 14) 2,some (12,true)⟩,false,[]⟩,⟨⟨some 16,.fad (.tmp 15) 0,some (12,true)⟩,false,[]⟩,
 ⟨⟨some 17,.ld (.tmp 16),some (12,true)⟩,false,[]⟩,⟨⟨some 18,.mv (.tmp 0),some (12,true)⟩,false,[]⟩,⟨⟨some 19,.mv (.tmp 3),some (12,true)⟩,false,[]⟩,
 ⟨⟨some 20,.bin .sub (.tmp 19) (.const (.int .i64 1)),some (12,true)⟩,false,[]⟩,⟨⟨some 21,.iad (.tmp 18) (.tmp 20) 2,some (12,true)⟩,false,[]⟩,
 ⟨⟨some 22,.fad (.tmp 21) 0,some (12,true)⟩,false,[]⟩,⟨⟨some 23,.ld (.tmp 22),some (12,true)⟩,false,[]⟩,⟨⟨some 24,.bin .lss (.tmp 17) (.tmp 23),some (12,true)⟩,false,[]⟩,
 ⟨⟨some 25,.pick (.tmp 12) (.tmp 24) (.const (.bool false)),none⟩,false,[]⟩] []) (.cond (.tmp 25) (.skip) (.exit 2))) (.seq (.block 3 (.bad)) (.blk [⟨some 26,.mv (.tmp 3),none⟩,
 ⟨some 27,.bin .sub (.tmp 26) (.const (.int .i64 1)),none⟩,⟨some 3,.mv (.tmp 27),none⟩])))))))) (.blk [⟨some 44,.bin .add (.tmp 6) (.const (.int .i64 1)),none⟩,
 ⟨some 6,.mv (.tmp 44),none⟩])))))),[],45)
end Go.Msk
