/-
  The numbers of the generic functions in this program, and that these functions are as the framework says.
-/
import Derived.Test.YtolcohnlcakchaaDoorFm
import Derived.Test.YtolcohnlcakchaaDoorChecked
namespace Go.Proofs.YtolcohnlcakchaaDoor
open Go.Msk Go.Proofs
set_option maxRecDepth 100000

/-- The numbers of the generic functions. -/
def fTbl : List Nat := [1, 2, 26, 0, 25, 0, 24, 0, 0, 0, 0, 0, 33, 35, 0, 0, 0, 0, 0, 0, 0, 0, 0, 0, 0, 0, 0, 0, 28, 0, 0, 41, 0, 0, 0, 0, 0, 0, 0, 0, 0, 0, 0, 0, 0, 0, 0, 0, 0, 0, 0, 0, 0, 0, 0, 0, 32, 31, 0, 34, 85, 21, 30, 0, 0, 27, 0, 0, 0, 0, 20, 0, 0, 23, 7, 0, 10, 0, 0, 0, 0, 0, 0, 0, 0, 0, 0, 0, 0, 0, 0, 0, 0, 0, 0, 17, 0, 0, 0, 0, 0, 0, 9, 0, 0, 0, 0, 0, 0, 51, 52, 0, 0, 29, 0, 0, 0, 0, 0, 0, 71]
def F (c : Nat) : Nat := fTbl.getD c 0 - 1
def has (c : Nat) : Bool := Nat.blt 0 (fTbl.getD c 0)

theorem mixed : Tryd.prog.follows .mixedOrders = true := by kernel_rfl
def Tryd.sa6_ren : Go.Shelf.Ren := ⟨fun | 6 => 28 | 10 => 35 | 11 => 36 | 12 => 37 | 13 => 38 | 14 => 39 | 24 => 50 | 25 => 51 | 26 => 52 | 27 => 53 | 28 => 54 | 29 => 55 | 30 => 56 | 31 => 57 | 32 => 58 | 33 => 59 | 34 => 60 | 35 => 61 | 36 => 62 | 37 => 63 | 38 => 64 | 39 => 65 | n => n, fun | 20 => 20 | 26 => 72 | 35 => 83 | 0 => 0 | 37 => 85 | 3 => 3 | 41 => 88 | 44 => 91 | 49 => 48 | 51 => 99 | 4 => 4 | 54 => 102 | 53 => 101 | 58 => 106 | 5 => 5 | 9 => 9 | 60 => 108 | 64 => 112 | 66 => 114 | 67 => 115 | 17 => 17 | 32 => 80 | 33 => 81 | 82 => 131 | 12 => 12 | 75 => 124 | 76 => 125 | 77 => 126 | 78 => 127 | 79 => 128 | 80 => 129 | n => n, fun | n => n⟩
theorem Tryd.sa6 : Go.Proofs.LaysGg.n6 Tryd.prog Tryd.sa6_ren where
  mixed := by kernel_rfl
  f6 := Tryd.func28.trans (congrArg some (by kernel_rfl))
  f10 := Tryd.func35.trans (congrArg some (by kernel_rfl))
  f11 := Tryd.func36.trans (congrArg some (by kernel_rfl))
  f12 := Tryd.func37.trans (congrArg some (by kernel_rfl))
  f13 := Tryd.func38.trans (congrArg some (by kernel_rfl))
  f14 := Tryd.func39.trans (congrArg some (by kernel_rfl))
  f24 := Tryd.func50.trans (congrArg some (by kernel_rfl))
  f25 := Tryd.func51.trans (congrArg some (by kernel_rfl))
  f26 := Tryd.func52.trans (congrArg some (by kernel_rfl))
  f27 := Tryd.func53.trans (congrArg some (by kernel_rfl))
  f28 := Tryd.func54.trans (congrArg some (by kernel_rfl))
  f29 := Tryd.func55.trans (congrArg some (by kernel_rfl))
  f30 := Tryd.func56.trans (congrArg some (by kernel_rfl))
  f31 := Tryd.func57.trans (congrArg some (by kernel_rfl))
  f32 := Tryd.func58.trans (congrArg some (by kernel_rfl))
  f33 := Tryd.func59.trans (congrArg some (by kernel_rfl))
  f34 := Tryd.func60.trans (congrArg some (by kernel_rfl))
  f35 := Tryd.func61.trans (congrArg some (by kernel_rfl))
  f36 := Tryd.func62.trans (congrArg some (by kernel_rfl))
  f37 := Tryd.func63.trans (congrArg some (by kernel_rfl))
  f38 := Tryd.func64.trans (congrArg some (by kernel_rfl))
  f39 := Tryd.func65.trans (congrArg some (by kernel_rfl))
  t0 := Tryd.underlying0
  a0 := Tryd.isAgg0
  z0 := Tryd.sizeOf0
  v0 := Tryd.zeroValue0
  i0 := by kernel_rfl
  t3 := Tryd.underlying3
  a3 := Tryd.isAgg3
  z3 := Tryd.sizeOf3
  v3 := Tryd.zeroValue3
  i3 := by kernel_rfl
  t4 := Tryd.underlying4
  a4 := Tryd.isAgg4
  z4 := Tryd.sizeOf4
  v4 := Tryd.zeroValue4
  i4 := by kernel_rfl
  t5 := Tryd.underlying5
  a5 := Tryd.isAgg5
  z5 := Tryd.sizeOf5
  v5 := Tryd.zeroValue5
  i5 := by kernel_rfl
  t9 := Tryd.underlying9
  a9 := Tryd.isAgg9
  z9 := Tryd.sizeOf9
  v9 := Tryd.zeroValue9
  i9 := by kernel_rfl
  t12 := Tryd.underlying12
  a12 := Tryd.isAgg12
  z12 := Tryd.sizeOf12
  v12 := Tryd.zeroValue12
  i12 := by kernel_rfl
  t17 := Tryd.underlying17
  a17 := Tryd.isAgg17
  z17 := Tryd.sizeOf17
  v17 := Tryd.zeroValue17
  i17 := by kernel_rfl
  t20 := Tryd.underlying20
  a20 := Tryd.isAgg20
  z20 := Tryd.sizeOf20
  v20 := Tryd.zeroValue20
  i20 := by kernel_rfl
  t26 := Tryd.underlying72
  a26 := Tryd.isAgg72
  z26 := Tryd.sizeOf72
  v26 := Tryd.zeroValue72
  i26 := by kernel_rfl
  t32 := Tryd.underlying80
  a32 := Tryd.isAgg80
  z32 := Tryd.sizeOf80
  v32 := Tryd.zeroValue80
  i32 := by kernel_rfl
  t33 := Tryd.underlying81
  a33 := Tryd.isAgg81
  z33 := Tryd.sizeOf81
  v33 := Tryd.zeroValue81
  i33 := by kernel_rfl
  t35 := Tryd.underlying83
  a35 := Tryd.isAgg83
  z35 := Tryd.sizeOf83
  v35 := Tryd.zeroValue83
  i35 := by kernel_rfl
  t37 := Tryd.underlying85
  a37 := Tryd.isAgg85
  z37 := Tryd.sizeOf85
  v37 := Tryd.zeroValue85
  i37 := by kernel_rfl
  t41 := Tryd.underlying88
  a41 := Tryd.isAgg88
  z41 := Tryd.sizeOf88
  v41 := Tryd.zeroValue88
  i41 := by kernel_rfl
  t44 := Tryd.underlying91
  a44 := Tryd.isAgg91
  z44 := Tryd.sizeOf91
  v44 := Tryd.zeroValue91
  i44 := by kernel_rfl
  t49 := Tryd.underlying48
  a49 := Tryd.isAgg48
  z49 := Tryd.sizeOf48
  v49 := Tryd.zeroValue48
  i49 := by kernel_rfl
  t51 := Tryd.underlying99
  a51 := Tryd.isAgg99
  z51 := Tryd.sizeOf99
  v51 := Tryd.zeroValue99
  i51 := by kernel_rfl
  t53 := Tryd.underlying101
  a53 := Tryd.isAgg101
  z53 := Tryd.sizeOf101
  v53 := Tryd.zeroValue101
  i53 := by kernel_rfl
  t54 := Tryd.underlying102
  a54 := Tryd.isAgg102
  z54 := Tryd.sizeOf102
  v54 := Tryd.zeroValue102
  i54 := by kernel_rfl
  t58 := Tryd.underlying106
  a58 := Tryd.isAgg106
  z58 := Tryd.sizeOf106
  v58 := Tryd.zeroValue106
  i58 := by kernel_rfl
  t60 := Tryd.underlying108
  a60 := Tryd.isAgg108
  z60 := Tryd.sizeOf108
  v60 := Tryd.zeroValue108
  i60 := by kernel_rfl
  t64 := Tryd.underlying112
  a64 := Tryd.isAgg112
  z64 := Tryd.sizeOf112
  v64 := Tryd.zeroValue112
  i64 := by kernel_rfl
  t66 := Tryd.underlying114
  a66 := Tryd.isAgg114
  z66 := Tryd.sizeOf114
  v66 := Tryd.zeroValue114
  i66 := by kernel_rfl
  t67 := Tryd.underlying115
  a67 := Tryd.isAgg115
  z67 := Tryd.sizeOf115
  v67 := Tryd.zeroValue115
  i67 := by kernel_rfl
  t75 := Tryd.underlying124
  a75 := Tryd.isAgg124
  z75 := Tryd.sizeOf124
  v75 := Tryd.zeroValue124
  i75 := by kernel_rfl
  t76 := Tryd.underlying125
  a76 := Tryd.isAgg125
  z76 := Tryd.sizeOf125
  v76 := Tryd.zeroValue125
  i76 := by kernel_rfl
  t77 := Tryd.underlying126
  a77 := Tryd.isAgg126
  z77 := Tryd.sizeOf126
  v77 := Tryd.zeroValue126
  i77 := by kernel_rfl
  t78 := Tryd.underlying127
  a78 := Tryd.isAgg127
  z78 := Tryd.sizeOf127
  v78 := Tryd.zeroValue127
  i78 := by kernel_rfl
  t79 := Tryd.underlying128
  a79 := Tryd.isAgg128
  z79 := Tryd.sizeOf128
  v79 := Tryd.zeroValue128
  i79 := by kernel_rfl
  t80 := Tryd.underlying129
  a80 := Tryd.isAgg129
  z80 := Tryd.sizeOf129
  v80 := Tryd.zeroValue129
  i80 := by kernel_rfl
  t82 := Tryd.underlying131
  a82 := Tryd.isAgg131
  z82 := Tryd.sizeOf131
  v82 := Tryd.zeroValue131
  i82 := by kernel_rfl

open Go.Shelf Go.RowKit Go.Lib Go.Sort in
theorem sortC : SortC Tryd.prog (F sortSlice) (F tEach1) (F tyU32s) :=
  sortC_of Tryd.sa6 mixed (by kernel_rfl) (by kernel_rfl) (e := 48) (i := (Tryd.prog.info? 70).get (by kernel_rfl)) (ie := (Tryd.prog.info? 48).get (by kernel_rfl)) (by kernel_rfl) (by kernel_rfl) (by kernel_rfl) (by kernel_rfl) 10 (fun _ => by kernel_rfl) (by kernel_rfl) (fun _ => by kernel_rfl) (by kernel_rfl) (by kernel_rfl)
    (enters_of Tryd.func29 (by kernel_rfl) rfl) 41 42 46 (by kernel_rfl) (by kernel_rfl) (by kernel_rfl) true
    (fun args W => run_callFunc_extern Tryd.func46 (by kernel_rfl) (by kernel_rfl) (by kernel_rfl) (e := Extern.ReflectliteSwapper.swap true) (by kernel_rfl) args W)

theorem lib : Lib Tryd.prog F has where
  mixed := mixed
  beUint16 := fun _ => by kernel_rfl
  beUint32 := fun _ => by kernel_rfl
  beUint64 := fun h => (Bool.false_ne_true h).elim
  kUvarint := fun _ => by kernel_rfl
  kUnsafeString := fun h => (Bool.false_ne_true h).elim
  rOk := fun h => (Bool.false_ne_true h).elim
  rComplete := fun _ => by kernel_rfl
  rSpan := fun _ => by kernel_rfl
  rUvarint := fun _ => by kernel_rfl
  rReadUint64 := fun h => (Bool.false_ne_true h).elim
  rBool := fun _ => by kernel_rfl
  rInt8 := fun h => (Bool.false_ne_true h).elim
  rInt16 := fun _ => by kernel_rfl
  rUint16 := fun h => (Bool.false_ne_true h).elim
  rInt32 := fun _ => by kernel_rfl
  rInt64 := fun h => (Bool.false_ne_true h).elim
  rUuid := fun h => (Bool.false_ne_true h).elim
  rString := fun h => (Bool.false_ne_true h).elim
  rUnsafeString := fun h => (Bool.false_ne_true h).elim
  rCompactString := fun h => (Bool.false_ne_true h).elim
  rUnsafeCompactString := fun h => (Bool.false_ne_true h).elim
  rNullableString := fun h => (Bool.false_ne_true h).elim
  rUnsafeNullableString := fun h => (Bool.false_ne_true h).elim
  rCompactNullableString := fun h => (Bool.false_ne_true h).elim
  rUnsafeCompactNullableString := fun h => (Bool.false_ne_true h).elim
  rBytes := fun h => (Bool.false_ne_true h).elim
  rCompactBytes := fun h => (Bool.false_ne_true h).elim
  rNullableBytes := fun h => (Bool.false_ne_true h).elim
  rCompactNullableBytes := fun h => (Bool.false_ne_true h).elim
  rArrayLen := fun h => (Bool.false_ne_true h).elim
  rCompactArrayLen := fun h => (Bool.false_ne_true h).elim
  tSet := fun _ => by kernel_rfl
  tRead := fun _ => by kernel_rfl
theorem libI : LibI Tryd.prog F has where
  iBoolTree := fun _ => by kernel_rfl
  iTextTree := fun h => (Bool.false_ne_true h).elim
  iOctetsTree := fun h => (Bool.false_ne_true h).elim
  tEach := fun _ => by kernel_rfl
  iSorted := fun _ => by kernel_rfl
  sort := fun _ => sortC

end Go.Proofs.YtolcohnlcakchaaDoor
