/-
  The numbers of the generic functions in this program, and that these functions are as the framework says.
-/
import Derived.Test.YtljndbdfoiagpaaGreatDoorFp
import Derived.Test.YtljndbdfoiagpaaGreatDoorChecked
namespace Go.Proofs.YtljndbdfoiagpaaGreatDoor
open Go.Msk Go.Proofs
set_option maxRecDepth 100000

/-- The numbers of the generic functions. -/
def fTbl : List Nat := [1, 2, 85, 0, 83, 0, 67, 0, 84, 0, 0, 0, 95, 97, 74, 76, 73, 75, 79, 80, 77, 78, 0, 0, 0, 0, 69, 68, 71, 70, 96, 103, 55, 0, 53, 91, 43, 87, 0, 0, 0, 54, 50, 88, 47, 46, 49, 48, 0, 0, 0, 0, 45, 44, 60, 59, 99, 94, 0, 98, 51, 89, 102, 52, 90, 81, 0, 0, 0, 0, 0, 0, 0, 0, 9, 0, 0, 6, 16, 31, 0, 41, 62, 36, 39, 65, 66, 63, 64, 35, 38, 37, 40, 21, 10, 12, 0, 0, 0, 0, 0, 0, 0, 0, 0, 0, 34, 61, 148, 100, 118, 0, 0, 101, 0, 0, 0, 0, 0, 0, 138]
def F (c : Nat) : Nat := fTbl.getD c 0 - 1
def has (c : Nat) : Bool := Nat.blt 0 (fTbl.getD c 0)

theorem mixed : Tryz.prog.follows .mixedOrders = true := by kernel_rfl
def Tryz.sa6_ren : Go.Shelf.Ren := ⟨fun | 6 => 100 | 10 => 103 | 11 => 104 | 12 => 105 | 13 => 106 | 14 => 107 | 24 => 99 | 25 => 117 | 26 => 118 | 27 => 119 | 28 => 120 | 29 => 121 | 30 => 122 | 31 => 123 | 32 => 124 | 33 => 125 | 34 => 126 | 35 => 127 | 36 => 128 | 37 => 129 | 38 => 130 | 39 => 131 | n => n, fun | 20 => 20 | 26 => 139 | 35 => 145 | 0 => 0 | 37 => 147 | 3 => 3 | 41 => 113 | 44 => 152 | 49 => 55 | 51 => 73 | 4 => 4 | 54 => 159 | 53 => 158 | 58 => 163 | 5 => 5 | 9 => 9 | 60 => 165 | 64 => 169 | 66 => 171 | 67 => 172 | 17 => 17 | 32 => 142 | 33 => 143 | 82 => 187 | 12 => 12 | 75 => 180 | 76 => 181 | 77 => 182 | 78 => 183 | 79 => 184 | 80 => 185 | n => n, fun | n => n⟩
theorem Tryz.sa6 : Go.Proofs.LaysGg.n6 Tryz.prog Tryz.sa6_ren where
  mixed := by kernel_rfl
  f6 := Tryz.func100.trans (congrArg some (by kernel_rfl))
  f10 := Tryz.func103.trans (congrArg some (by kernel_rfl))
  f11 := Tryz.func104.trans (congrArg some (by kernel_rfl))
  f12 := Tryz.func105.trans (congrArg some (by kernel_rfl))
  f13 := Tryz.func106.trans (congrArg some (by kernel_rfl))
  f14 := Tryz.func107.trans (congrArg some (by kernel_rfl))
  f24 := Tryz.func99.trans (congrArg some (by kernel_rfl))
  f25 := Tryz.func117.trans (congrArg some (by kernel_rfl))
  f26 := Tryz.func118.trans (congrArg some (by kernel_rfl))
  f27 := Tryz.func119.trans (congrArg some (by kernel_rfl))
  f28 := Tryz.func120.trans (congrArg some (by kernel_rfl))
  f29 := Tryz.func121.trans (congrArg some (by kernel_rfl))
  f30 := Tryz.func122.trans (congrArg some (by kernel_rfl))
  f31 := Tryz.func123.trans (congrArg some (by kernel_rfl))
  f32 := Tryz.func124.trans (congrArg some (by kernel_rfl))
  f33 := Tryz.func125.trans (congrArg some (by kernel_rfl))
  f34 := Tryz.func126.trans (congrArg some (by kernel_rfl))
  f35 := Tryz.func127.trans (congrArg some (by kernel_rfl))
  f36 := Tryz.func128.trans (congrArg some (by kernel_rfl))
  f37 := Tryz.func129.trans (congrArg some (by kernel_rfl))
  f38 := Tryz.func130.trans (congrArg some (by kernel_rfl))
  f39 := Tryz.func131.trans (congrArg some (by kernel_rfl))
  t0 := Tryz.underlying0
  a0 := Tryz.isAgg0
  z0 := Tryz.sizeOf0
  v0 := Tryz.zeroValue0
  i0 := by kernel_rfl
  t3 := Tryz.underlying3
  a3 := Tryz.isAgg3
  z3 := Tryz.sizeOf3
  v3 := Tryz.zeroValue3
  i3 := by kernel_rfl
  t4 := Tryz.underlying4
  a4 := Tryz.isAgg4
  z4 := Tryz.sizeOf4
  v4 := Tryz.zeroValue4
  i4 := by kernel_rfl
  t5 := Tryz.underlying5
  a5 := Tryz.isAgg5
  z5 := Tryz.sizeOf5
  v5 := Tryz.zeroValue5
  i5 := by kernel_rfl
  t9 := Tryz.underlying9
  a9 := Tryz.isAgg9
  z9 := Tryz.sizeOf9
  v9 := Tryz.zeroValue9
  i9 := by kernel_rfl
  t12 := Tryz.underlying12
  a12 := Tryz.isAgg12
  z12 := Tryz.sizeOf12
  v12 := Tryz.zeroValue12
  i12 := by kernel_rfl
  t17 := Tryz.underlying17
  a17 := Tryz.isAgg17
  z17 := Tryz.sizeOf17
  v17 := Tryz.zeroValue17
  i17 := by kernel_rfl
  t20 := Tryz.underlying20
  a20 := Tryz.isAgg20
  z20 := Tryz.sizeOf20
  v20 := Tryz.zeroValue20
  i20 := by kernel_rfl
  t26 := Tryz.underlying139
  a26 := Tryz.isAgg139
  z26 := Tryz.sizeOf139
  v26 := Tryz.zeroValue139
  i26 := by kernel_rfl
  t32 := Tryz.underlying142
  a32 := Tryz.isAgg142
  z32 := Tryz.sizeOf142
  v32 := Tryz.zeroValue142
  i32 := by kernel_rfl
  t33 := Tryz.underlying143
  a33 := Tryz.isAgg143
  z33 := Tryz.sizeOf143
  v33 := Tryz.zeroValue143
  i33 := by kernel_rfl
  t35 := Tryz.underlying145
  a35 := Tryz.isAgg145
  z35 := Tryz.sizeOf145
  v35 := Tryz.zeroValue145
  i35 := by kernel_rfl
  t37 := Tryz.underlying147
  a37 := Tryz.isAgg147
  z37 := Tryz.sizeOf147
  v37 := Tryz.zeroValue147
  i37 := by kernel_rfl
  t41 := Tryz.underlying113
  a41 := Tryz.isAgg113
  z41 := Tryz.sizeOf113
  v41 := Tryz.zeroValue113
  i41 := by kernel_rfl
  t44 := Tryz.underlying152
  a44 := Tryz.isAgg152
  z44 := Tryz.sizeOf152
  v44 := Tryz.zeroValue152
  i44 := by kernel_rfl
  t49 := Tryz.underlying55
  a49 := Tryz.isAgg55
  z49 := Tryz.sizeOf55
  v49 := Tryz.zeroValue55
  i49 := by kernel_rfl
  t51 := Tryz.underlying73
  a51 := Tryz.isAgg73
  z51 := Tryz.sizeOf73
  v51 := Tryz.zeroValue73
  i51 := by kernel_rfl
  t53 := Tryz.underlying158
  a53 := Tryz.isAgg158
  z53 := Tryz.sizeOf158
  v53 := Tryz.zeroValue158
  i53 := by kernel_rfl
  t54 := Tryz.underlying159
  a54 := Tryz.isAgg159
  z54 := Tryz.sizeOf159
  v54 := Tryz.zeroValue159
  i54 := by kernel_rfl
  t58 := Tryz.underlying163
  a58 := Tryz.isAgg163
  z58 := Tryz.sizeOf163
  v58 := Tryz.zeroValue163
  i58 := by kernel_rfl
  t60 := Tryz.underlying165
  a60 := Tryz.isAgg165
  z60 := Tryz.sizeOf165
  v60 := Tryz.zeroValue165
  i60 := by kernel_rfl
  t64 := Tryz.underlying169
  a64 := Tryz.isAgg169
  z64 := Tryz.sizeOf169
  v64 := Tryz.zeroValue169
  i64 := by kernel_rfl
  t66 := Tryz.underlying171
  a66 := Tryz.isAgg171
  z66 := Tryz.sizeOf171
  v66 := Tryz.zeroValue171
  i66 := by kernel_rfl
  t67 := Tryz.underlying172
  a67 := Tryz.isAgg172
  z67 := Tryz.sizeOf172
  v67 := Tryz.zeroValue172
  i67 := by kernel_rfl
  t75 := Tryz.underlying180
  a75 := Tryz.isAgg180
  z75 := Tryz.sizeOf180
  v75 := Tryz.zeroValue180
  i75 := by kernel_rfl
  t76 := Tryz.underlying181
  a76 := Tryz.isAgg181
  z76 := Tryz.sizeOf181
  v76 := Tryz.zeroValue181
  i76 := by kernel_rfl
  t77 := Tryz.underlying182
  a77 := Tryz.isAgg182
  z77 := Tryz.sizeOf182
  v77 := Tryz.zeroValue182
  i77 := by kernel_rfl
  t78 := Tryz.underlying183
  a78 := Tryz.isAgg183
  z78 := Tryz.sizeOf183
  v78 := Tryz.zeroValue183
  i78 := by kernel_rfl
  t79 := Tryz.underlying184
  a79 := Tryz.isAgg184
  z79 := Tryz.sizeOf184
  v79 := Tryz.zeroValue184
  i79 := by kernel_rfl
  t80 := Tryz.underlying185
  a80 := Tryz.isAgg185
  z80 := Tryz.sizeOf185
  v80 := Tryz.zeroValue185
  i80 := by kernel_rfl
  t82 := Tryz.underlying187
  a82 := Tryz.isAgg187
  z82 := Tryz.sizeOf187
  v82 := Tryz.zeroValue187
  i82 := by kernel_rfl

open Go.Shelf Go.RowKit Go.Lib Go.Sort in
theorem sortC : SortC Tryz.prog (F sortSlice) (F tEach1) (F tyU32s) :=
  sortC_of Tryz.sa6 mixed (by kernel_rfl) (by kernel_rfl) (e := 55) (i := (Tryz.prog.info? 137).get (by kernel_rfl)) (ie := (Tryz.prog.info? 55).get (by kernel_rfl)) (by kernel_rfl) (by kernel_rfl) (by kernel_rfl) (by kernel_rfl) 10 (fun _ => by kernel_rfl) (by kernel_rfl) (fun _ => by kernel_rfl) (by kernel_rfl) (by kernel_rfl)
    (enters_of Tryz.func101 (by kernel_rfl) rfl) 108 109 113 (by kernel_rfl) (by kernel_rfl) (by kernel_rfl) true
    (fun args W => run_callFunc_extern Tryz.func113 (by kernel_rfl) (by kernel_rfl) (by kernel_rfl) (e := Extern.ReflectliteSwapper.swap true) (by kernel_rfl) args W)

theorem lib : Lib Tryz.prog F has where
  mixed := mixed
  beUint16 := fun _ => by kernel_rfl
  beUint32 := fun _ => by kernel_rfl
  beUint64 := fun h => (Bool.false_ne_true h).elim
  kUvarint := fun _ => by kernel_rfl
  kUnsafeString := fun _ => by kernel_rfl
  rOk := fun _ => by kernel_rfl
  rComplete := fun _ => by kernel_rfl
  rSpan := fun _ => by kernel_rfl
  rUvarint := fun _ => by kernel_rfl
  rReadUint64 := fun h => (Bool.false_ne_true h).elim
  rBool := fun _ => by kernel_rfl
  rInt8 := fun h => (Bool.false_ne_true h).elim
  rInt16 := fun _ => by kernel_rfl
  rUint16 := fun h => (Bool.false_ne_true h).elim
  rInt32 := fun _ => by kernel_rfl
  rInt64 := fun h => (Bool.false_ne_true h).elim
  rUuid := fun _ => by kernel_rfl
  rString := fun _ => by kernel_rfl
  rUnsafeString := fun _ => by kernel_rfl
  rCompactString := fun _ => by kernel_rfl
  rUnsafeCompactString := fun _ => by kernel_rfl
  rNullableString := fun _ => by kernel_rfl
  rUnsafeNullableString := fun _ => by kernel_rfl
  rCompactNullableString := fun _ => by kernel_rfl
  rUnsafeCompactNullableString := fun _ => by kernel_rfl
  rBytes := fun h => (Bool.false_ne_true h).elim
  rCompactBytes := fun h => (Bool.false_ne_true h).elim
  rNullableBytes := fun h => (Bool.false_ne_true h).elim
  rCompactNullableBytes := fun h => (Bool.false_ne_true h).elim
  rArrayLen := fun _ => by kernel_rfl
  rCompactArrayLen := fun _ => by kernel_rfl
  tSet := fun _ => by kernel_rfl
  tRead := fun _ => by kernel_rfl
theorem libA : LibA Tryz.prog F has where
  mixed := mixed
  kAppendBool := fun _ => by kernel_rfl
  kAppendInt8 := fun h => (Bool.false_ne_true h).elim
  kAppendInt16 := fun _ => by kernel_rfl
  kAppendUint16 := fun _ => by kernel_rfl
  kAppendInt32 := fun _ => by kernel_rfl
  kAppendUint32 := fun _ => by kernel_rfl
  kAppendInt64 := fun h => (Bool.false_ne_true h).elim
  kAppendUint64 := fun h => (Bool.false_ne_true h).elim
  kAppendUuid := fun _ => by kernel_rfl
  kAppendUvarint := fun _ => by kernel_rfl
  kUvarintLen := fun _ => by kernel_rfl
  bLen32 := fun _ => by kernel_rfl
  kAppendString := fun _ => by kernel_rfl
  kAppendCompactString := fun _ => by kernel_rfl
  kAppendNullableString := fun _ => by kernel_rfl
  kAppendCompactNullableString := fun _ => by kernel_rfl
  kAppendBytes := fun h => (Bool.false_ne_true h).elim
  kAppendCompactBytes := fun h => (Bool.false_ne_true h).elim
  kAppendArrayLen := fun _ => by kernel_rfl
  kAppendCompactArrayLen := fun _ => by kernel_rfl
  kAppendNullableArrayLen := fun _ => by kernel_rfl
  kAppendCompactNullableArrayLen := fun _ => by kernel_rfl
  tLen := fun _ => by kernel_rfl
  tAppendEach := fun _ => by kernel_rfl
  tAppendEach1 := fun _ => by kernel_rfl
  tEach := fun _ => by kernel_rfl
  body1 := fun _ => by kernel_rfl
  sort := fun _ => sortC
theorem slib : SLib Tryz.prog F where
  mixed := mixed
  has := by kernel_rfl
  null := by kernel_rfl
  whole := by kernel_rfl
  things := by kernel_rfl
  at_ := by kernel_rfl
  uvarint := by kernel_rfl
  fixed := by kernel_rfl
  width := by kernel_rfl
  counted := by kernel_rfl
  value := by kernel_rfl
  field := by kernel_rfl
  known := by kernel_rfl
  unknown := by kernel_rfl
  part := by kernel_rfl
  write := by kernel_rfl

end Go.Proofs.YtljndbdfoiagpaaGreatDoor
