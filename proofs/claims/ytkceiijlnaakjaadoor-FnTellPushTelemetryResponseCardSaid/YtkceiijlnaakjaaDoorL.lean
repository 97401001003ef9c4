/-
  The numbers of the generic functions in this program, and that these functions are as the framework says.
-/
import Derived.Test.YtkceiijlnaakjaaDoorFr
import Derived.Test.YtkceiijlnaakjaaDoorChecked
namespace Go.Proofs.YtkceiijlnaakjaaDoor
open Go.Msk Go.Proofs
set_option maxRecDepth 100000

/-- The numbers of the generic functions. -/
def fTbl : List Nat := [1, 2, 0, 0, 44, 0, 43, 0, 0, 0, 0, 0, 53, 55, 0, 0, 0, 0, 0, 0, 0, 0, 0, 0, 0, 0, 0, 0, 46, 0, 0, 61, 0, 0, 0, 0, 0, 0, 0, 0, 0, 0, 0, 0, 0, 0, 0, 0, 0, 0, 0, 0, 0, 0, 0, 0, 52, 51, 0, 54, 105, 32, 48, 0, 0, 45, 0, 0, 0, 0, 0, 0, 0, 34, 8, 0, 13, 5, 14, 29, 0, 28, 41, 21, 37, 38, 39, 49, 50, 35, 23, 36, 26, 20, 10, 27, 0, 0, 42, 25, 24, 11, 0, 0, 0, 0, 22, 40, 12, 71, 72, 0, 0, 47, 0, 0, 0, 0, 0, 0, 96]
def F (c : Nat) : Nat := fTbl.getD c 0 - 1
def has (c : Nat) : Bool := Nat.blt 0 (fTbl.getD c 0)

theorem mixed : Tryd.prog.follows .mixedOrders = true := by kernel_rfl
def Tryd.sa6_ren : Go.Shelf.Ren := ⟨fun | 6 => 46 | 10 => 55 | 11 => 56 | 12 => 57 | 13 => 58 | 14 => 59 | 24 => 70 | 25 => 71 | 26 => 72 | 27 => 73 | 28 => 74 | 29 => 75 | 30 => 76 | 31 => 77 | 32 => 78 | 33 => 79 | 34 => 80 | 35 => 81 | 36 => 82 | 37 => 83 | 38 => 84 | 39 => 85 | n => n, fun | 20 => 20 | 26 => 97 | 35 => 112 | 0 => 0 | 37 => 114 | 3 => 3 | 41 => 100 | 44 => 119 | 49 => 63 | 51 => 82 | 4 => 4 | 54 => 129 | 53 => 128 | 58 => 133 | 5 => 5 | 9 => 9 | 60 => 135 | 64 => 139 | 66 => 141 | 67 => 142 | 17 => 17 | 32 => 109 | 33 => 110 | 82 => 158 | 12 => 12 | 75 => 151 | 76 => 152 | 77 => 153 | 78 => 154 | 79 => 155 | 80 => 156 | n => n, fun | n => n⟩
theorem Tryd.sa6 : Go.Proofs.LaysGg.n6 Tryd.prog Tryd.sa6_ren where
  mixed := by kernel_rfl
  f6 := Tryd.func46.trans (congrArg some (by kernel_rfl))
  f10 := Tryd.func55.trans (congrArg some (by kernel_rfl))
  f11 := Tryd.func56.trans (congrArg some (by kernel_rfl))
  f12 := Tryd.func57.trans (congrArg some (by kernel_rfl))
  f13 := Tryd.func58.trans (congrArg some (by kernel_rfl))
  f14 := Tryd.func59.trans (congrArg some (by kernel_rfl))
  f24 := Tryd.func70.trans (congrArg some (by kernel_rfl))
  f25 := Tryd.func71.trans (congrArg some (by kernel_rfl))
  f26 := Tryd.func72.trans (congrArg some (by kernel_rfl))
  f27 := Tryd.func73.trans (congrArg some (by kernel_rfl))
  f28 := Tryd.func74.trans (congrArg some (by kernel_rfl))
  f29 := Tryd.func75.trans (congrArg some (by kernel_rfl))
  f30 := Tryd.func76.trans (congrArg some (by kernel_rfl))
  f31 := Tryd.func77.trans (congrArg some (by kernel_rfl))
  f32 := Tryd.func78.trans (congrArg some (by kernel_rfl))
  f33 := Tryd.func79.trans (congrArg some (by kernel_rfl))
  f34 := Tryd.func80.trans (congrArg some (by kernel_rfl))
  f35 := Tryd.func81.trans (congrArg some (by kernel_rfl))
  f36 := Tryd.func82.trans (congrArg some (by kernel_rfl))
  f37 := Tryd.func83.trans (congrArg some (by kernel_rfl))
  f38 := Tryd.func84.trans (congrArg some (by kernel_rfl))
  f39 := Tryd.func85.trans (congrArg some (by kernel_rfl))
  t0 := Tryd.underlying0
  a0 := Tryd.isAgg0
  z0 := Tryd.sizeOf0
  v0 := Tryd.zeroValue0
  i0 := by kernel_rfl
  t3 := Tryd.underlying3
  a3 := Tryd.isAgg3
  z3 := Tryd.sizeOf3
  v3 := Tryd.zeroValue3
  i3 := by kernel_rfl
  t4 := Tryd.underlying4
  a4 := Tryd.isAgg4
  z4 := Tryd.sizeOf4
  v4 := Tryd.zeroValue4
  i4 := by kernel_rfl
  t5 := Tryd.underlying5
  a5 := Tryd.isAgg5
  z5 := Tryd.sizeOf5
  v5 := Tryd.zeroValue5
  i5 := by kernel_rfl
  t9 := Tryd.underlying9
  a9 := Tryd.isAgg9
  z9 := Tryd.sizeOf9
  v9 := Tryd.zeroValue9
  i9 := by kernel_rfl
  t12 := Tryd.underlying12
  a12 := Tryd.isAgg12
  z12 := Tryd.sizeOf12
  v12 := Tryd.zeroValue12
  i12 := by kernel_rfl
  t17 := Tryd.underlying17
  a17 := Tryd.isAgg17
  z17 := Tryd.sizeOf17
  v17 := Tryd.zeroValue17
  i17 := by kernel_rfl
  t20 := Tryd.underlying20
  a20 := Tryd.isAgg20
  z20 := Tryd.sizeOf20
  v20 := Tryd.zeroValue20
  i20 := by kernel_rfl
  t26 := Tryd.underlying97
  a26 := Tryd.isAgg97
  z26 := Tryd.sizeOf97
  v26 := Tryd.zeroValue97
  i26 := by kernel_rfl
  t32 := Tryd.underlying109
  a32 := Tryd.isAgg109
  z32 := Tryd.sizeOf109
  v32 := Tryd.zeroValue109
  i32 := by kernel_rfl
  t33 := Tryd.underlying110
  a33 := Tryd.isAgg110
  z33 := Tryd.sizeOf110
  v33 := Tryd.zeroValue110
  i33 := by kernel_rfl
  t35 := Tryd.underlying112
  a35 := Tryd.isAgg112
  z35 := Tryd.sizeOf112
  v35 := Tryd.zeroValue112
  i35 := by kernel_rfl
  t37 := Tryd.underlying114
  a37 := Tryd.isAgg114
  z37 := Tryd.sizeOf114
  v37 := Tryd.zeroValue114
  i37 := by kernel_rfl
  t41 := Tryd.underlying100
  a41 := Tryd.isAgg100
  z41 := Tryd.sizeOf100
  v41 := Tryd.zeroValue100
  i41 := by kernel_rfl
  t44 := Tryd.underlying119
  a44 := Tryd.isAgg119
  z44 := Tryd.sizeOf119
  v44 := Tryd.zeroValue119
  i44 := by kernel_rfl
  t49 := Tryd.underlying63
  a49 := Tryd.isAgg63
  z49 := Tryd.sizeOf63
  v49 := Tryd.zeroValue63
  i49 := by kernel_rfl
  t51 := Tryd.underlying82
  a51 := Tryd.isAgg82
  z51 := Tryd.sizeOf82
  v51 := Tryd.zeroValue82
  i51 := by kernel_rfl
  t53 := Tryd.underlying128
  a53 := Tryd.isAgg128
  z53 := Tryd.sizeOf128
  v53 := Tryd.zeroValue128
  i53 := by kernel_rfl
  t54 := Tryd.underlying129
  a54 := Tryd.isAgg129
  z54 := Tryd.sizeOf129
  v54 := Tryd.zeroValue129
  i54 := by kernel_rfl
  t58 := Tryd.underlying133
  a58 := Tryd.isAgg133
  z58 := Tryd.sizeOf133
  v58 := Tryd.zeroValue133
  i58 := by kernel_rfl
  t60 := Tryd.underlying135
  a60 := Tryd.isAgg135
  z60 := Tryd.sizeOf135
  v60 := Tryd.zeroValue135
  i60 := by kernel_rfl
  t64 := Tryd.underlying139
  a64 := Tryd.isAgg139
  z64 := Tryd.sizeOf139
  v64 := Tryd.zeroValue139
  i64 := by kernel_rfl
  t66 := Tryd.underlying141
  a66 := Tryd.isAgg141
  z66 := Tryd.sizeOf141
  v66 := Tryd.zeroValue141
  i66 := by kernel_rfl
  t67 := Tryd.underlying142
  a67 := Tryd.isAgg142
  z67 := Tryd.sizeOf142
  v67 := Tryd.zeroValue142
  i67 := by kernel_rfl
  t75 := Tryd.underlying151
  a75 := Tryd.isAgg151
  z75 := Tryd.sizeOf151
  v75 := Tryd.zeroValue151
  i75 := by kernel_rfl
  t76 := Tryd.underlying152
  a76 := Tryd.isAgg152
  z76 := Tryd.sizeOf152
  v76 := Tryd.zeroValue152
  i76 := by kernel_rfl
  t77 := Tryd.underlying153
  a77 := Tryd.isAgg153
  z77 := Tryd.sizeOf153
  v77 := Tryd.zeroValue153
  i77 := by kernel_rfl
  t78 := Tryd.underlying154
  a78 := Tryd.isAgg154
  z78 := Tryd.sizeOf154
  v78 := Tryd.zeroValue154
  i78 := by kernel_rfl
  t79 := Tryd.underlying155
  a79 := Tryd.isAgg155
  z79 := Tryd.sizeOf155
  v79 := Tryd.zeroValue155
  i79 := by kernel_rfl
  t80 := Tryd.underlying156
  a80 := Tryd.isAgg156
  z80 := Tryd.sizeOf156
  v80 := Tryd.zeroValue156
  i80 := by kernel_rfl
  t82 := Tryd.underlying158
  a82 := Tryd.isAgg158
  z82 := Tryd.sizeOf158
  v82 := Tryd.zeroValue158
  i82 := by kernel_rfl

open Go.Shelf Go.RowKit Go.Lib Go.Sort in
theorem sortC : SortC Tryd.prog (F sortSlice) (F tEach1) (F tyU32s) :=
  sortC_of Tryd.sa6 mixed (by kernel_rfl) (by kernel_rfl) (e := 63) (i := (Tryd.prog.info? 95).get (by kernel_rfl)) (ie := (Tryd.prog.info? 63).get (by kernel_rfl)) (by kernel_rfl) (by kernel_rfl) (by kernel_rfl) (by kernel_rfl) 10 (fun _ => by kernel_rfl) (by kernel_rfl) (fun _ => by kernel_rfl) (by kernel_rfl) (by kernel_rfl)
    (enters_of Tryd.func47 (by kernel_rfl) rfl) 61 62 66 (by kernel_rfl) (by kernel_rfl) (by kernel_rfl) true
    (fun args W => run_callFunc_extern Tryd.func66 (by kernel_rfl) (by kernel_rfl) (by kernel_rfl) (e := Extern.ReflectliteSwapper.swap true) (by kernel_rfl) args W)

theorem lib : Lib Tryd.prog F has where
  mixed := mixed
  beUint16 := fun _ => by kernel_rfl
  beUint32 := fun _ => by kernel_rfl
  beUint64 := fun h => (Bool.false_ne_true h).elim
  kUvarint := fun _ => by kernel_rfl
  kUnsafeString := fun h => (Bool.false_ne_true h).elim
  rOk := fun h => (Bool.false_ne_true h).elim
  rComplete := fun _ => by kernel_rfl
  rSpan := fun _ => by kernel_rfl
  rUvarint := fun _ => by kernel_rfl
  rReadUint64 := fun h => (Bool.false_ne_true h).elim
  rBool := fun h => (Bool.false_ne_true h).elim
  rInt8 := fun h => (Bool.false_ne_true h).elim
  rInt16 := fun _ => by kernel_rfl
  rUint16 := fun h => (Bool.false_ne_true h).elim
  rInt32 := fun _ => by kernel_rfl
  rInt64 := fun h => (Bool.false_ne_true h).elim
  rUuid := fun h => (Bool.false_ne_true h).elim
  rString := fun h => (Bool.false_ne_true h).elim
  rUnsafeString := fun h => (Bool.false_ne_true h).elim
  rCompactString := fun h => (Bool.false_ne_true h).elim
  rUnsafeCompactString := fun h => (Bool.false_ne_true h).elim
  rNullableString := fun h => (Bool.false_ne_true h).elim
  rUnsafeNullableString := fun h => (Bool.false_ne_true h).elim
  rCompactNullableString := fun h => (Bool.false_ne_true h).elim
  rUnsafeCompactNullableString := fun h => (Bool.false_ne_true h).elim
  rBytes := fun h => (Bool.false_ne_true h).elim
  rCompactBytes := fun h => (Bool.false_ne_true h).elim
  rNullableBytes := fun h => (Bool.false_ne_true h).elim
  rCompactNullableBytes := fun h => (Bool.false_ne_true h).elim
  rArrayLen := fun h => (Bool.false_ne_true h).elim
  rCompactArrayLen := fun h => (Bool.false_ne_true h).elim
  tSet := fun _ => by kernel_rfl
  tRead := fun _ => by kernel_rfl
theorem libI : LibI Tryd.prog F has where
  iBoolTree := fun h => (Bool.false_ne_true h).elim
  iTextTree := fun h => (Bool.false_ne_true h).elim
  iOctetsTree := fun h => (Bool.false_ne_true h).elim
  tEach := fun _ => by kernel_rfl
  iSorted := fun _ => by kernel_rfl
  sort := fun _ => sortC
theorem slib : SLib Tryd.prog F where
  mixed := mixed
  has := by kernel_rfl
  null := by kernel_rfl
  whole := by kernel_rfl
  things := by kernel_rfl
  at_ := by kernel_rfl
  uvarint := by kernel_rfl
  fixed := by kernel_rfl
  width := by kernel_rfl
  counted := by kernel_rfl
  value := by kernel_rfl
  field := by kernel_rfl
  known := by kernel_rfl
  unknown := by kernel_rfl
  part := by kernel_rfl
  write := by kernel_rfl

end Go.Proofs.YtkceiijlnaakjaaDoor
