/-
  The numbers of the generic functions in this program, and that these functions are as the framework says.
-/
import Derived.Test.YtfoljfjkifiboaaFq
import Derived.Test.YtfoljfjkifiboaaChecked
namespace Go.Proofs.Ytfoljfjkifiboaa
open Go.Msk Go.Proofs
set_option maxRecDepth 100000

/-- The numbers of the generic functions. -/
def fTbl : List Nat := [1, 1, 0, 0, 0, 0, 0, 0, 0, 0, 0, 0, 0, 0, 0, 0, 0, 0, 0, 0, 0, 0, 0, 0, 0, 0, 0, 0, 0, 0, 0, 0, 0, 29, 26, 43, 28, 45, 27, 44, 0, 0, 36, 46, 33, 32, 0, 0, 0, 0, 0, 0, 35, 34, 31, 30, 0, 0, 0, 25, 37, 47, 55, 38, 48, 0, 23, 0, 0, 0, 0, 0, 0, 0, 0, 9, 0, 5, 12, 22, 0, 19, 40, 17, 52, 20, 58, 56, 57, 50, 51, 41, 18, 42, 21, 7, 10, 16, 0, 0, 0, 0, 0, 0, 0, 11, 49, 39, 103, 53, 73, 0, 0, 54, 0, 0, 0, 0, 0, 0, 84]
def F (c : Nat) : Nat := fTbl.getD c 0 - 1
def has (c : Nat) : Bool := Nat.blt 0 (fTbl.getD c 0)

theorem mixed : Try.prog.follows .mixedOrders = true := by kernel_rfl
def Try.sa6_ren : Go.Shelf.Ren := ⟨fun | 6 => 53 | 10 => 58 | 11 => 59 | 12 => 60 | 13 => 61 | 14 => 62 | 24 => 52 | 25 => 72 | 26 => 73 | 27 => 74 | 28 => 75 | 29 => 76 | 30 => 77 | 31 => 78 | 32 => 79 | 33 => 80 | 34 => 81 | 35 => 82 | 36 => 83 | 37 => 84 | 38 => 85 | 39 => 86 | n => n, fun | 20 => 20 | 26 => 101 | 35 => 108 | 0 => 0 | 37 => 110 | 3 => 3 | 41 => 94 | 44 => 115 | 49 => 58 | 51 => 92 | 4 => 4 | 54 => 122 | 53 => 121 | 58 => 126 | 5 => 5 | 9 => 9 | 60 => 128 | 64 => 132 | 66 => 134 | 67 => 135 | 17 => 17 | 32 => 105 | 33 => 106 | 82 => 150 | 12 => 12 | 75 => 143 | 76 => 144 | 77 => 145 | 78 => 146 | 79 => 147 | 80 => 148 | n => n, fun | n => n⟩
theorem Try.sa6 : Go.Proofs.LaysGg.n6 Try.prog Try.sa6_ren where
  mixed := by kernel_rfl
  f6 := Try.func53.trans (congrArg some (by kernel_rfl))
  f10 := Try.func58.trans (congrArg some (by kernel_rfl))
  f11 := Try.func59.trans (congrArg some (by kernel_rfl))
  f12 := Try.func60.trans (congrArg some (by kernel_rfl))
  f13 := Try.func61.trans (congrArg some (by kernel_rfl))
  f14 := Try.func62.trans (congrArg some (by kernel_rfl))
  f24 := Try.func52.trans (congrArg some (by kernel_rfl))
  f25 := Try.func72.trans (congrArg some (by kernel_rfl))
  f26 := Try.func73.trans (congrArg some (by kernel_rfl))
  f27 := Try.func74.trans (congrArg some (by kernel_rfl))
  f28 := Try.func75.trans (congrArg some (by kernel_rfl))
  f29 := Try.func76.trans (congrArg some (by kernel_rfl))
  f30 := Try.func77.trans (congrArg some (by kernel_rfl))
  f31 := Try.func78.trans (congrArg some (by kernel_rfl))
  f32 := Try.func79.trans (congrArg some (by kernel_rfl))
  f33 := Try.func80.trans (congrArg some (by kernel_rfl))
  f34 := Try.func81.trans (congrArg some (by kernel_rfl))
  f35 := Try.func82.trans (congrArg some (by kernel_rfl))
  f36 := Try.func83.trans (congrArg some (by kernel_rfl))
  f37 := Try.func84.trans (congrArg some (by kernel_rfl))
  f38 := Try.func85.trans (congrArg some (by kernel_rfl))
  f39 := Try.func86.trans (congrArg some (by kernel_rfl))
  t0 := Try.underlying0
  a0 := Try.isAgg0
  z0 := Try.sizeOf0
  v0 := Try.zeroValue0
  i0 := by kernel_rfl
  t3 := Try.underlying3
  a3 := Try.isAgg3
  z3 := Try.sizeOf3
  v3 := Try.zeroValue3
  i3 := by kernel_rfl
  t4 := Try.underlying4
  a4 := Try.isAgg4
  z4 := Try.sizeOf4
  v4 := Try.zeroValue4
  i4 := by kernel_rfl
  t5 := Try.underlying5
  a5 := Try.isAgg5
  z5 := Try.sizeOf5
  v5 := Try.zeroValue5
  i5 := by kernel_rfl
  t9 := Try.underlying9
  a9 := Try.isAgg9
  z9 := Try.sizeOf9
  v9 := Try.zeroValue9
  i9 := by kernel_rfl
  t12 := Try.underlying12
  a12 := Try.isAgg12
  z12 := Try.sizeOf12
  v12 := Try.zeroValue12
  i12 := by kernel_rfl
  t17 := Try.underlying17
  a17 := Try.isAgg17
  z17 := Try.sizeOf17
  v17 := Try.zeroValue17
  i17 := by kernel_rfl
  t20 := Try.underlying20
  a20 := Try.isAgg20
  z20 := Try.sizeOf20
  v20 := Try.zeroValue20
  i20 := by kernel_rfl
  t26 := Try.underlying101
  a26 := Try.isAgg101
  z26 := Try.sizeOf101
  v26 := Try.zeroValue101
  i26 := by kernel_rfl
  t32 := Try.underlying105
  a32 := Try.isAgg105
  z32 := Try.sizeOf105
  v32 := Try.zeroValue105
  i32 := by kernel_rfl
  t33 := Try.underlying106
  a33 := Try.isAgg106
  z33 := Try.sizeOf106
  v33 := Try.zeroValue106
  i33 := by kernel_rfl
  t35 := Try.underlying108
  a35 := Try.isAgg108
  z35 := Try.sizeOf108
  v35 := Try.zeroValue108
  i35 := by kernel_rfl
  t37 := Try.underlying110
  a37 := Try.isAgg110
  z37 := Try.sizeOf110
  v37 := Try.zeroValue110
  i37 := by kernel_rfl
  t41 := Try.underlying94
  a41 := Try.isAgg94
  z41 := Try.sizeOf94
  v41 := Try.zeroValue94
  i41 := by kernel_rfl
  t44 := Try.underlying115
  a44 := Try.isAgg115
  z44 := Try.sizeOf115
  v44 := Try.zeroValue115
  i44 := by kernel_rfl
  t49 := Try.underlying58
  a49 := Try.isAgg58
  z49 := Try.sizeOf58
  v49 := Try.zeroValue58
  i49 := by kernel_rfl
  t51 := Try.underlying92
  a51 := Try.isAgg92
  z51 := Try.sizeOf92
  v51 := Try.zeroValue92
  i51 := by kernel_rfl
  t53 := Try.underlying121
  a53 := Try.isAgg121
  z53 := Try.sizeOf121
  v53 := Try.zeroValue121
  i53 := by kernel_rfl
  t54 := Try.underlying122
  a54 := Try.isAgg122
  z54 := Try.sizeOf122
  v54 := Try.zeroValue122
  i54 := by kernel_rfl
  t58 := Try.underlying126
  a58 := Try.isAgg126
  z58 := Try.sizeOf126
  v58 := Try.zeroValue126
  i58 := by kernel_rfl
  t60 := Try.underlying128
  a60 := Try.isAgg128
  z60 := Try.sizeOf128
  v60 := Try.zeroValue128
  i60 := by kernel_rfl
  t64 := Try.underlying132
  a64 := Try.isAgg132
  z64 := Try.sizeOf132
  v64 := Try.zeroValue132
  i64 := by kernel_rfl
  t66 := Try.underlying134
  a66 := Try.isAgg134
  z66 := Try.sizeOf134
  v66 := Try.zeroValue134
  i66 := by kernel_rfl
  t67 := Try.underlying135
  a67 := Try.isAgg135
  z67 := Try.sizeOf135
  v67 := Try.zeroValue135
  i67 := by kernel_rfl
  t75 := Try.underlying143
  a75 := Try.isAgg143
  z75 := Try.sizeOf143
  v75 := Try.zeroValue143
  i75 := by kernel_rfl
  t76 := Try.underlying144
  a76 := Try.isAgg144
  z76 := Try.sizeOf144
  v76 := Try.zeroValue144
  i76 := by kernel_rfl
  t77 := Try.underlying145
  a77 := Try.isAgg145
  z77 := Try.sizeOf145
  v77 := Try.zeroValue145
  i77 := by kernel_rfl
  t78 := Try.underlying146
  a78 := Try.isAgg146
  z78 := Try.sizeOf146
  v78 := Try.zeroValue146
  i78 := by kernel_rfl
  t79 := Try.underlying147
  a79 := Try.isAgg147
  z79 := Try.sizeOf147
  v79 := Try.zeroValue147
  i79 := by kernel_rfl
  t80 := Try.underlying148
  a80 := Try.isAgg148
  z80 := Try.sizeOf148
  v80 := Try.zeroValue148
  i80 := by kernel_rfl
  t82 := Try.underlying150
  a82 := Try.isAgg150
  z82 := Try.sizeOf150
  v82 := Try.zeroValue150
  i82 := by kernel_rfl

open Go.Shelf Go.RowKit Go.Lib Go.Sort in
theorem sortC : SortC Try.prog (F sortSlice) (F tEach1) (F tyU32s) :=
  sortC_of Try.sa6 mixed (by kernel_rfl) (by kernel_rfl) (e := 58) (i := (Try.prog.info? 83).get (by kernel_rfl)) (ie := (Try.prog.info? 58).get (by kernel_rfl)) (by kernel_rfl) (by kernel_rfl) (by kernel_rfl) (by kernel_rfl) 10 (fun _ => by kernel_rfl) (by kernel_rfl) (fun _ => by kernel_rfl) (by kernel_rfl) (by kernel_rfl)
    (enters_of Try.func54 (by kernel_rfl) rfl) 63 64 68 (by kernel_rfl) (by kernel_rfl) (by kernel_rfl) true
    (fun args W => run_callFunc_extern Try.func68 (by kernel_rfl) (by kernel_rfl) (by kernel_rfl) (e := Extern.ReflectliteSwapper.swap true) (by kernel_rfl) args W)

theorem lib : Lib Try.prog F has where
  mixed := mixed
  beUint16 := fun h => (Bool.false_ne_true h).elim
  beUint32 := fun h => (Bool.false_ne_true h).elim
  beUint64 := fun h => (Bool.false_ne_true h).elim
  kUvarint := fun h => (Bool.false_ne_true h).elim
  kUnsafeString := fun h => (Bool.false_ne_true h).elim
  rOk := fun h => (Bool.false_ne_true h).elim
  rComplete := fun h => (Bool.false_ne_true h).elim
  rSpan := fun h => (Bool.false_ne_true h).elim
  rUvarint := fun h => (Bool.false_ne_true h).elim
  rReadUint64 := fun h => (Bool.false_ne_true h).elim
  rBool := fun h => (Bool.false_ne_true h).elim
  rInt8 := fun h => (Bool.false_ne_true h).elim
  rInt16 := fun h => (Bool.false_ne_true h).elim
  rUint16 := fun h => (Bool.false_ne_true h).elim
  rInt32 := fun h => (Bool.false_ne_true h).elim
  rInt64 := fun h => (Bool.false_ne_true h).elim
  rUuid := fun h => (Bool.false_ne_true h).elim
  rString := fun h => (Bool.false_ne_true h).elim
  rUnsafeString := fun h => (Bool.false_ne_true h).elim
  rCompactString := fun h => (Bool.false_ne_true h).elim
  rUnsafeCompactString := fun h => (Bool.false_ne_true h).elim
  rNullableString := fun h => (Bool.false_ne_true h).elim
  rUnsafeNullableString := fun h => (Bool.false_ne_true h).elim
  rCompactNullableString := fun h => (Bool.false_ne_true h).elim
  rUnsafeCompactNullableString := fun h => (Bool.false_ne_true h).elim
  rBytes := fun h => (Bool.false_ne_true h).elim
  rCompactBytes := fun h => (Bool.false_ne_true h).elim
  rNullableBytes := fun h => (Bool.false_ne_true h).elim
  rCompactNullableBytes := fun h => (Bool.false_ne_true h).elim
  rArrayLen := fun h => (Bool.false_ne_true h).elim
  rCompactArrayLen := fun h => (Bool.false_ne_true h).elim
  tSet := fun _ => by kernel_rfl
  tRead := fun h => (Bool.false_ne_true h).elim
theorem libM : LibM Try.prog F has where
  mixed := mixed
  iAt := by kernel_rfl
  iSixteen := fun h => (Bool.false_ne_true h).elim
  tSet := fun _ => by kernel_rfl
theorem libA : LibA Try.prog F has where
  mixed := mixed
  kAppendBool := fun h => (Bool.false_ne_true h).elim
  kAppendInt8 := fun _ => by kernel_rfl
  kAppendInt16 := fun _ => by kernel_rfl
  kAppendUint16 := fun _ => by kernel_rfl
  kAppendInt32 := fun _ => by kernel_rfl
  kAppendUint32 := fun _ => by kernel_rfl
  kAppendInt64 := fun _ => by kernel_rfl
  kAppendUint64 := fun _ => by kernel_rfl
  kAppendUuid := fun h => (Bool.false_ne_true h).elim
  kAppendUvarint := fun _ => by kernel_rfl
  kUvarintLen := fun _ => by kernel_rfl
  bLen32 := fun _ => by kernel_rfl
  kAppendString := fun _ => by kernel_rfl
  kAppendCompactString := fun _ => by kernel_rfl
  kAppendNullableString := fun h => (Bool.false_ne_true h).elim
  kAppendCompactNullableString := fun h => (Bool.false_ne_true h).elim
  kAppendBytes := fun h => (Bool.false_ne_true h).elim
  kAppendCompactBytes := fun h => (Bool.false_ne_true h).elim
  kAppendArrayLen := fun _ => by kernel_rfl
  kAppendCompactArrayLen := fun _ => by kernel_rfl
  kAppendNullableArrayLen := fun _ => by kernel_rfl
  kAppendCompactNullableArrayLen := fun _ => by kernel_rfl
  tLen := fun _ => by kernel_rfl
  tAppendEach := fun _ => by kernel_rfl
  tAppendEach1 := fun _ => by kernel_rfl
  tEach := fun _ => by kernel_rfl
  body1 := fun _ => by kernel_rfl
  sort := fun _ => sortC
theorem slib : SLib Try.prog F where
  mixed := mixed
  has := by kernel_rfl
  null := by kernel_rfl
  whole := by kernel_rfl
  things := by kernel_rfl
  at_ := by kernel_rfl
  uvarint := by kernel_rfl
  fixed := by kernel_rfl
  width := by kernel_rfl
  counted := by kernel_rfl
  value := by kernel_rfl
  field := by kernel_rfl
  known := by kernel_rfl
  unknown := by kernel_rfl
  part := by kernel_rfl
  write := by kernel_rfl

end Go.Proofs.Ytfoljfjkifiboaa
