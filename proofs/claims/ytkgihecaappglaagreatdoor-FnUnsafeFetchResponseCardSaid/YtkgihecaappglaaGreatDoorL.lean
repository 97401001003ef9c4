/-
  The numbers of the generic functions in this program, and that these functions are as the framework says.
-/
import Derived.Test.YtkgihecaappglaaGreatDoorFp
import Derived.Test.YtkgihecaappglaaGreatDoorChecked
namespace Go.Proofs.YtkgihecaappglaaGreatDoor
open Go.Msk Go.Proofs
set_option maxRecDepth 100000

/-- The numbers of the generic functions. -/
def fTbl : List Nat := [1, 2, 0, 0, 26, 0, 25, 38, 36, 0, 63, 0, 43, 45, 33, 35, 32, 34, 52, 53, 50, 51, 0, 0, 42, 41, 28, 27, 30, 29, 62, 64, 0, 0, 0, 0, 0, 0, 0, 0, 0, 0, 0, 0, 0, 0, 0, 0, 0, 0, 0, 0, 0, 0, 0, 0, 61, 60, 76, 44, 125, 22, 59, 0, 0, 40, 0, 0, 0, 0, 0, 56, 69, 24, 7, 0, 10, 0, 0, 0, 0, 0, 0, 0, 0, 0, 0, 0, 0, 0, 0, 0, 0, 0, 0, 17, 0, 0, 0, 0, 0, 0, 9, 0, 0, 0, 0, 0, 0, 90, 91, 0, 0, 58, 0, 0, 0, 0, 0, 0, 108]
def F (c : Nat) : Nat := fTbl.getD c 0 - 1
def has (c : Nat) : Bool := Nat.blt 0 (fTbl.getD c 0)

theorem mixed : Tryz.prog.follows .mixedOrders = true := by kernel_rfl
def Tryz.sa6_ren : Go.Shelf.Ren := ⟨fun | 6 => 57 | 10 => 70 | 11 => 71 | 12 => 72 | 13 => 73 | 14 => 74 | 24 => 89 | 25 => 90 | 26 => 91 | 27 => 92 | 28 => 93 | 29 => 94 | 30 => 95 | 31 => 96 | 32 => 97 | 33 => 98 | 34 => 99 | 35 => 100 | 36 => 101 | 37 => 102 | 38 => 103 | 39 => 104 | n => n, fun | 20 => 20 | 26 => 109 | 35 => 128 | 0 => 0 | 37 => 130 | 3 => 3 | 41 => 133 | 44 => 136 | 49 => 48 | 51 => 116 | 4 => 4 | 54 => 145 | 53 => 144 | 58 => 149 | 5 => 5 | 9 => 9 | 60 => 151 | 64 => 154 | 66 => 156 | 67 => 157 | 17 => 17 | 32 => 125 | 33 => 126 | 82 => 172 | 12 => 12 | 75 => 165 | 76 => 166 | 77 => 167 | 78 => 168 | 79 => 169 | 80 => 170 | n => n, fun | n => n⟩
theorem Tryz.sa6 : Go.Proofs.LaysGg.n6 Tryz.prog Tryz.sa6_ren where
  mixed := by kernel_rfl
  f6 := Tryz.func57.trans (congrArg some (by kernel_rfl))
  f10 := Tryz.func70.trans (congrArg some (by kernel_rfl))
  f11 := Tryz.func71.trans (congrArg some (by kernel_rfl))
  f12 := Tryz.func72.trans (congrArg some (by kernel_rfl))
  f13 := Tryz.func73.trans (congrArg some (by kernel_rfl))
  f14 := Tryz.func74.trans (congrArg some (by kernel_rfl))
  f24 := Tryz.func89.trans (congrArg some (by kernel_rfl))
  f25 := Tryz.func90.trans (congrArg some (by kernel_rfl))
  f26 := Tryz.func91.trans (congrArg some (by kernel_rfl))
  f27 := Tryz.func92.trans (congrArg some (by kernel_rfl))
  f28 := Tryz.func93.trans (congrArg some (by kernel_rfl))
  f29 := Tryz.func94.trans (congrArg some (by kernel_rfl))
  f30 := Tryz.func95.trans (congrArg some (by kernel_rfl))
  f31 := Tryz.func96.trans (congrArg some (by kernel_rfl))
  f32 := Tryz.func97.trans (congrArg some (by kernel_rfl))
  f33 := Tryz.func98.trans (congrArg some (by kernel_rfl))
  f34 := Tryz.func99.trans (congrArg some (by kernel_rfl))
  f35 := Tryz.func100.trans (congrArg some (by kernel_rfl))
  f36 := Tryz.func101.trans (congrArg some (by kernel_rfl))
  f37 := Tryz.func102.trans (congrArg some (by kernel_rfl))
  f38 := Tryz.func103.trans (congrArg some (by kernel_rfl))
  f39 := Tryz.func104.trans (congrArg some (by kernel_rfl))
  t0 := Tryz.underlying0
  a0 := Tryz.isAgg0
  z0 := Tryz.sizeOf0
  v0 := Tryz.zeroValue0
  i0 := by kernel_rfl
  t3 := Tryz.underlying3
  a3 := Tryz.isAgg3
  z3 := Tryz.sizeOf3
  v3 := Tryz.zeroValue3
  i3 := by kernel_rfl
  t4 := Tryz.underlying4
  a4 := Tryz.isAgg4
  z4 := Tryz.sizeOf4
  v4 := Tryz.zeroValue4
  i4 := by kernel_rfl
  t5 := Tryz.underlying5
  a5 := Tryz.isAgg5
  z5 := Tryz.sizeOf5
  v5 := Tryz.zeroValue5
  i5 := by kernel_rfl
  t9 := Tryz.underlying9
  a9 := Tryz.isAgg9
  z9 := Tryz.sizeOf9
  v9 := Tryz.zeroValue9
  i9 := by kernel_rfl
  t12 := Tryz.underlying12
  a12 := Tryz.isAgg12
  z12 := Tryz.sizeOf12
  v12 := Tryz.zeroValue12
  i12 := by kernel_rfl
  t17 := Tryz.underlying17
  a17 := Tryz.isAgg17
  z17 := Tryz.sizeOf17
  v17 := Tryz.zeroValue17
  i17 := by kernel_rfl
  t20 := Tryz.underlying20
  a20 := Tryz.isAgg20
  z20 := Tryz.sizeOf20
  v20 := Tryz.zeroValue20
  i20 := by kernel_rfl
  t26 := Tryz.underlying109
  a26 := Tryz.isAgg109
  z26 := Tryz.sizeOf109
  v26 := Tryz.zeroValue109
  i26 := by kernel_rfl
  t32 := Tryz.underlying125
  a32 := Tryz.isAgg125
  z32 := Tryz.sizeOf125
  v32 := Tryz.zeroValue125
  i32 := by kernel_rfl
  t33 := Tryz.underlying126
  a33 := Tryz.isAgg126
  z33 := Tryz.sizeOf126
  v33 := Tryz.zeroValue126
  i33 := by kernel_rfl
  t35 := Tryz.underlying128
  a35 := Tryz.isAgg128
  z35 := Tryz.sizeOf128
  v35 := Tryz.zeroValue128
  i35 := by kernel_rfl
  t37 := Tryz.underlying130
  a37 := Tryz.isAgg130
  z37 := Tryz.sizeOf130
  v37 := Tryz.zeroValue130
  i37 := by kernel_rfl
  t41 := Tryz.underlying133
  a41 := Tryz.isAgg133
  z41 := Tryz.sizeOf133
  v41 := Tryz.zeroValue133
  i41 := by kernel_rfl
  t44 := Tryz.underlying136
  a44 := Tryz.isAgg136
  z44 := Tryz.sizeOf136
  v44 := Tryz.zeroValue136
  i44 := by kernel_rfl
  t49 := Tryz.underlying48
  a49 := Tryz.isAgg48
  z49 := Tryz.sizeOf48
  v49 := Tryz.zeroValue48
  i49 := by kernel_rfl
  t51 := Tryz.underlying116
  a51 := Tryz.isAgg116
  z51 := Tryz.sizeOf116
  v51 := Tryz.zeroValue116
  i51 := by kernel_rfl
  t53 := Tryz.underlying144
  a53 := Tryz.isAgg144
  z53 := Tryz.sizeOf144
  v53 := Tryz.zeroValue144
  i53 := by kernel_rfl
  t54 := Tryz.underlying145
  a54 := Tryz.isAgg145
  z54 := Tryz.sizeOf145
  v54 := Tryz.zeroValue145
  i54 := by kernel_rfl
  t58 := Tryz.underlying149
  a58 := Tryz.isAgg149
  z58 := Tryz.sizeOf149
  v58 := Tryz.zeroValue149
  i58 := by kernel_rfl
  t60 := Tryz.underlying151
  a60 := Tryz.isAgg151
  z60 := Tryz.sizeOf151
  v60 := Tryz.zeroValue151
  i60 := by kernel_rfl
  t64 := Tryz.underlying154
  a64 := Tryz.isAgg154
  z64 := Tryz.sizeOf154
  v64 := Tryz.zeroValue154
  i64 := by kernel_rfl
  t66 := Tryz.underlying156
  a66 := Tryz.isAgg156
  z66 := Tryz.sizeOf156
  v66 := Tryz.zeroValue156
  i66 := by kernel_rfl
  t67 := Tryz.underlying157
  a67 := Tryz.isAgg157
  z67 := Tryz.sizeOf157
  v67 := Tryz.zeroValue157
  i67 := by kernel_rfl
  t75 := Tryz.underlying165
  a75 := Tryz.isAgg165
  z75 := Tryz.sizeOf165
  v75 := Tryz.zeroValue165
  i75 := by kernel_rfl
  t76 := Tryz.underlying166
  a76 := Tryz.isAgg166
  z76 := Tryz.sizeOf166
  v76 := Tryz.zeroValue166
  i76 := by kernel_rfl
  t77 := Tryz.underlying167
  a77 := Tryz.isAgg167
  z77 := Tryz.sizeOf167
  v77 := Tryz.zeroValue167
  i77 := by kernel_rfl
  t78 := Tryz.underlying168
  a78 := Tryz.isAgg168
  z78 := Tryz.sizeOf168
  v78 := Tryz.zeroValue168
  i78 := by kernel_rfl
  t79 := Tryz.underlying169
  a79 := Tryz.isAgg169
  z79 := Tryz.sizeOf169
  v79 := Tryz.zeroValue169
  i79 := by kernel_rfl
  t80 := Tryz.underlying170
  a80 := Tryz.isAgg170
  z80 := Tryz.sizeOf170
  v80 := Tryz.zeroValue170
  i80 := by kernel_rfl
  t82 := Tryz.underlying172
  a82 := Tryz.isAgg172
  z82 := Tryz.sizeOf172
  v82 := Tryz.zeroValue172
  i82 := by kernel_rfl

open Go.Shelf Go.RowKit Go.Lib Go.Sort in
theorem sortC : SortC Tryz.prog (F sortSlice) (F tEach1) (F tyU32s) :=
  sortC_of Tryz.sa6 mixed (by kernel_rfl) (by kernel_rfl) (e := 48) (i := (Tryz.prog.info? 107).get (by kernel_rfl)) (ie := (Tryz.prog.info? 48).get (by kernel_rfl)) (by kernel_rfl) (by kernel_rfl) (by kernel_rfl) (by kernel_rfl) 10 (fun _ => by kernel_rfl) (by kernel_rfl) (fun _ => by kernel_rfl) (by kernel_rfl) (by kernel_rfl)
    (enters_of Tryz.func58 (by kernel_rfl) rfl) 80 81 85 (by kernel_rfl) (by kernel_rfl) (by kernel_rfl) true
    (fun args W => run_callFunc_extern Tryz.func85 (by kernel_rfl) (by kernel_rfl) (by kernel_rfl) (e := Extern.ReflectliteSwapper.swap true) (by kernel_rfl) args W)

theorem lib : Lib Tryz.prog F has where
  mixed := mixed
  beUint16 := fun _ => by kernel_rfl
  beUint32 := fun _ => by kernel_rfl
  beUint64 := fun _ => by kernel_rfl
  kUvarint := fun _ => by kernel_rfl
  kUnsafeString := fun _ => by kernel_rfl
  rOk := fun _ => by kernel_rfl
  rComplete := fun _ => by kernel_rfl
  rSpan := fun _ => by kernel_rfl
  rUvarint := fun _ => by kernel_rfl
  rReadUint64 := fun _ => by kernel_rfl
  rBool := fun h => (Bool.false_ne_true h).elim
  rInt8 := fun h => (Bool.false_ne_true h).elim
  rInt16 := fun _ => by kernel_rfl
  rUint16 := fun h => (Bool.false_ne_true h).elim
  rInt32 := fun _ => by kernel_rfl
  rInt64 := fun _ => by kernel_rfl
  rUuid := fun _ => by kernel_rfl
  rString := fun _ => by kernel_rfl
  rUnsafeString := fun _ => by kernel_rfl
  rCompactString := fun _ => by kernel_rfl
  rUnsafeCompactString := fun _ => by kernel_rfl
  rNullableString := fun _ => by kernel_rfl
  rUnsafeNullableString := fun _ => by kernel_rfl
  rCompactNullableString := fun _ => by kernel_rfl
  rUnsafeCompactNullableString := fun _ => by kernel_rfl
  rBytes := fun h => (Bool.false_ne_true h).elim
  rCompactBytes := fun h => (Bool.false_ne_true h).elim
  rNullableBytes := fun _ => by kernel_rfl
  rCompactNullableBytes := fun _ => by kernel_rfl
  rArrayLen := fun _ => by kernel_rfl
  rCompactArrayLen := fun _ => by kernel_rfl
  tSet := fun _ => by kernel_rfl
  tRead := fun _ => by kernel_rfl
theorem libI : LibI Tryz.prog F has where
  iBoolTree := fun h => (Bool.false_ne_true h).elim
  iTextTree := fun _ => by kernel_rfl
  iOctetsTree := fun _ => by kernel_rfl
  tEach := fun _ => by kernel_rfl
  iSorted := fun _ => by kernel_rfl
  sort := fun _ => sortC

end Go.Proofs.YtkgihecaappglaaGreatDoor
