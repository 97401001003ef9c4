/-
  The numbers of the generic functions in this program, and that these functions are as the framework says.
-/
import Derived.Test.YtopfpehiaddeaaaGreatDoorFq
import Derived.Test.YtopfpehiaddeaaaGreatDoorChecked
namespace Go.Proofs.YtopfpehiaddeaaaGreatDoor
open Go.Msk Go.Proofs
set_option maxRecDepth 100000

/-- The numbers of the generic functions. -/
def fTbl : List Nat := [1, 2, 0, 0, 66, 0, 47, 0, 57, 0, 0, 0, 63, 65, 44, 46, 43, 45, 50, 51, 48, 49, 0, 0, 0, 0, 53, 52, 55, 54, 64, 72, 0, 0, 60, 69, 61, 70, 0, 0, 0, 98, 101, 104, 71, 94, 62, 95, 0, 0, 0, 0, 100, 99, 97, 96, 73, 67, 0, 68, 102, 105, 109, 103, 106, 58, 0, 0, 0, 0, 0, 0, 0, 0, 9, 0, 0, 6, 15, 24, 5, 33, 39, 28, 31, 23, 42, 40, 41, 27, 30, 29, 32, 19, 10, 12, 0, 0, 0, 0, 0, 0, 0, 0, 13, 0, 26, 38, 14, 107, 124, 0, 0, 108, 0, 0, 0, 0, 0, 0, 154, 35, 36, 59, 140, 37, 22, 0, 0, 115]
def F (c : Nat) : Nat := fTbl.getD c 0 - 1
def has (c : Nat) : Bool := Nat.blt 0 (fTbl.getD c 0)

theorem mixed : Tryz.prog.follows .mixedOrders = true := by kernel_rfl
def Tryz.sa6_ren : Go.Shelf.Ren := ⟨fun | 6 => 107 | 10 => 109 | 11 => 110 | 12 => 111 | 13 => 112 | 14 => 113 | 24 => 106 | 25 => 123 | 26 => 124 | 27 => 125 | 28 => 126 | 29 => 127 | 30 => 128 | 31 => 129 | 32 => 130 | 33 => 131 | 34 => 132 | 35 => 133 | 36 => 134 | 37 => 135 | 38 => 136 | 39 => 137 | n => n, fun | 20 => 20 | 26 => 155 | 35 => 159 | 0 => 0 | 37 => 161 | 3 => 3 | 41 => 93 | 44 => 166 | 49 => 59 | 51 => 76 | 4 => 4 | 54 => 173 | 53 => 172 | 58 => 177 | 5 => 5 | 9 => 9 | 60 => 179 | 64 => 183 | 66 => 185 | 67 => 186 | 17 => 17 | 32 => 156 | 33 => 157 | 82 => 147 | 12 => 12 | 75 => 140 | 76 => 141 | 77 => 142 | 78 => 143 | 79 => 144 | 80 => 145 | n => n, fun | n => n⟩
theorem Tryz.sa6 : Go.Proofs.LaysGg.n6 Tryz.prog Tryz.sa6_ren where
  mixed := by kernel_rfl
  f6 := Tryz.func107.trans (congrArg some (by kernel_rfl))
  f10 := Tryz.func109.trans (congrArg some (by kernel_rfl))
  f11 := Tryz.func110.trans (congrArg some (by kernel_rfl))
  f12 := Tryz.func111.trans (congrArg some (by kernel_rfl))
  f13 := Tryz.func112.trans (congrArg some (by kernel_rfl))
  f14 := Tryz.func113.trans (congrArg some (by kernel_rfl))
  f24 := Tryz.func106.trans (congrArg some (by kernel_rfl))
  f25 := Tryz.func123.trans (congrArg some (by kernel_rfl))
  f26 := Tryz.func124.trans (congrArg some (by kernel_rfl))
  f27 := Tryz.func125.trans (congrArg some (by kernel_rfl))
  f28 := Tryz.func126.trans (congrArg some (by kernel_rfl))
  f29 := Tryz.func127.trans (congrArg some (by kernel_rfl))
  f30 := Tryz.func128.trans (congrArg some (by kernel_rfl))
  f31 := Tryz.func129.trans (congrArg some (by kernel_rfl))
  f32 := Tryz.func130.trans (congrArg some (by kernel_rfl))
  f33 := Tryz.func131.trans (congrArg some (by kernel_rfl))
  f34 := Tryz.func132.trans (congrArg some (by kernel_rfl))
  f35 := Tryz.func133.trans (congrArg some (by kernel_rfl))
  f36 := Tryz.func134.trans (congrArg some (by kernel_rfl))
  f37 := Tryz.func135.trans (congrArg some (by kernel_rfl))
  f38 := Tryz.func136.trans (congrArg some (by kernel_rfl))
  f39 := Tryz.func137.trans (congrArg some (by kernel_rfl))
  t0 := Tryz.underlying0
  a0 := Tryz.isAgg0
  z0 := Tryz.sizeOf0
  v0 := Tryz.zeroValue0
  i0 := by kernel_rfl
  t3 := Tryz.underlying3
  a3 := Tryz.isAgg3
  z3 := Tryz.sizeOf3
  v3 := Tryz.zeroValue3
  i3 := by kernel_rfl
  t4 := Tryz.underlying4
  a4 := Tryz.isAgg4
  z4 := Tryz.sizeOf4
  v4 := Tryz.zeroValue4
  i4 := by kernel_rfl
  t5 := Tryz.underlying5
  a5 := Tryz.isAgg5
  z5 := Tryz.sizeOf5
  v5 := Tryz.zeroValue5
  i5 := by kernel_rfl
  t9 := Tryz.underlying9
  a9 := Tryz.isAgg9
  z9 := Tryz.sizeOf9
  v9 := Tryz.zeroValue9
  i9 := by kernel_rfl
  t12 := Tryz.underlying12
  a12 := Tryz.isAgg12
  z12 := Tryz.sizeOf12
  v12 := Tryz.zeroValue12
  i12 := by kernel_rfl
  t17 := Tryz.underlying17
  a17 := Tryz.isAgg17
  z17 := Tryz.sizeOf17
  v17 := Tryz.zeroValue17
  i17 := by kernel_rfl
  t20 := Tryz.underlying20
  a20 := Tryz.isAgg20
  z20 := Tryz.sizeOf20
  v20 := Tryz.zeroValue20
  i20 := by kernel_rfl
  t26 := Tryz.underlying155
  a26 := Tryz.isAgg155
  z26 := Tryz.sizeOf155
  v26 := Tryz.zeroValue155
  i26 := by kernel_rfl
  t32 := Tryz.underlying156
  a32 := Tryz.isAgg156
  z32 := Tryz.sizeOf156
  v32 := Tryz.zeroValue156
  i32 := by kernel_rfl
  t33 := Tryz.underlying157
  a33 := Tryz.isAgg157
  z33 := Tryz.sizeOf157
  v33 := Tryz.zeroValue157
  i33 := by kernel_rfl
  t35 := Tryz.underlying159
  a35 := Tryz.isAgg159
  z35 := Tryz.sizeOf159
  v35 := Tryz.zeroValue159
  i35 := by kernel_rfl
  t37 := Tryz.underlying161
  a37 := Tryz.isAgg161
  z37 := Tryz.sizeOf161
  v37 := Tryz.zeroValue161
  i37 := by kernel_rfl
  t41 := Tryz.underlying93
  a41 := Tryz.isAgg93
  z41 := Tryz.sizeOf93
  v41 := Tryz.zeroValue93
  i41 := by kernel_rfl
  t44 := Tryz.underlying166
  a44 := Tryz.isAgg166
  z44 := Tryz.sizeOf166
  v44 := Tryz.zeroValue166
  i44 := by kernel_rfl
  t49 := Tryz.underlying59
  a49 := Tryz.isAgg59
  z49 := Tryz.sizeOf59
  v49 := Tryz.zeroValue59
  i49 := by kernel_rfl
  t51 := Tryz.underlying76
  a51 := Tryz.isAgg76
  z51 := Tryz.sizeOf76
  v51 := Tryz.zeroValue76
  i51 := by kernel_rfl
  t53 := Tryz.underlying172
  a53 := Tryz.isAgg172
  z53 := Tryz.sizeOf172
  v53 := Tryz.zeroValue172
  i53 := by kernel_rfl
  t54 := Tryz.underlying173
  a54 := Tryz.isAgg173
  z54 := Tryz.sizeOf173
  v54 := Tryz.zeroValue173
  i54 := by kernel_rfl
  t58 := Tryz.underlying177
  a58 := Tryz.isAgg177
  z58 := Tryz.sizeOf177
  v58 := Tryz.zeroValue177
  i58 := by kernel_rfl
  t60 := Tryz.underlying179
  a60 := Tryz.isAgg179
  z60 := Tryz.sizeOf179
  v60 := Tryz.zeroValue179
  i60 := by kernel_rfl
  t64 := Tryz.underlying183
  a64 := Tryz.isAgg183
  z64 := Tryz.sizeOf183
  v64 := Tryz.zeroValue183
  i64 := by kernel_rfl
  t66 := Tryz.underlying185
  a66 := Tryz.isAgg185
  z66 := Tryz.sizeOf185
  v66 := Tryz.zeroValue185
  i66 := by kernel_rfl
  t67 := Tryz.underlying186
  a67 := Tryz.isAgg186
  z67 := Tryz.sizeOf186
  v67 := Tryz.zeroValue186
  i67 := by kernel_rfl
  t75 := Tryz.underlying140
  a75 := Tryz.isAgg140
  z75 := Tryz.sizeOf140
  v75 := Tryz.zeroValue140
  i75 := by kernel_rfl
  t76 := Tryz.underlying141
  a76 := Tryz.isAgg141
  z76 := Tryz.sizeOf141
  v76 := Tryz.zeroValue141
  i76 := by kernel_rfl
  t77 := Tryz.underlying142
  a77 := Tryz.isAgg142
  z77 := Tryz.sizeOf142
  v77 := Tryz.zeroValue142
  i77 := by kernel_rfl
  t78 := Tryz.underlying143
  a78 := Tryz.isAgg143
  z78 := Tryz.sizeOf143
  v78 := Tryz.zeroValue143
  i78 := by kernel_rfl
  t79 := Tryz.underlying144
  a79 := Tryz.isAgg144
  z79 := Tryz.sizeOf144
  v79 := Tryz.zeroValue144
  i79 := by kernel_rfl
  t80 := Tryz.underlying145
  a80 := Tryz.isAgg145
  z80 := Tryz.sizeOf145
  v80 := Tryz.zeroValue145
  i80 := by kernel_rfl
  t82 := Tryz.underlying147
  a82 := Tryz.isAgg147
  z82 := Tryz.sizeOf147
  v82 := Tryz.zeroValue147
  i82 := by kernel_rfl

open Go.Shelf Go.RowKit Go.Lib Go.Sort in
theorem sortC : SortC Tryz.prog (F sortSlice) (F tEach1) (F tyU32s) :=
  sortC_of Tryz.sa6 mixed (by kernel_rfl) (by kernel_rfl) (e := 59) (i := (Tryz.prog.info? 153).get (by kernel_rfl)) (ie := (Tryz.prog.info? 59).get (by kernel_rfl)) (by kernel_rfl) (by kernel_rfl) (by kernel_rfl) (by kernel_rfl) 10 (fun _ => by kernel_rfl) (by kernel_rfl) (fun _ => by kernel_rfl) (by kernel_rfl) (by kernel_rfl)
    (enters_of Tryz.func108 (by kernel_rfl) rfl) 114 115 119 (by kernel_rfl) (by kernel_rfl) (by kernel_rfl) true
    (fun args W => run_callFunc_extern Tryz.func119 (by kernel_rfl) (by kernel_rfl) (by kernel_rfl) (e := Extern.ReflectliteSwapper.swap true) (by kernel_rfl) args W)

theorem lib : Lib Tryz.prog F has where
  mixed := mixed
  beUint16 := fun _ => by kernel_rfl
  beUint32 := fun _ => by kernel_rfl
  beUint64 := fun h => (Bool.false_ne_true h).elim
  kUvarint := fun _ => by kernel_rfl
  kUnsafeString := fun _ => by kernel_rfl
  rOk := fun _ => by kernel_rfl
  rComplete := fun _ => by kernel_rfl
  rSpan := fun _ => by kernel_rfl
  rUvarint := fun _ => by kernel_rfl
  rReadUint64 := fun h => (Bool.false_ne_true h).elim
  rBool := fun h => (Bool.false_ne_true h).elim
  rInt8 := fun h => (Bool.false_ne_true h).elim
  rInt16 := fun _ => by kernel_rfl
  rUint16 := fun h => (Bool.false_ne_true h).elim
  rInt32 := fun _ => by kernel_rfl
  rInt64 := fun h => (Bool.false_ne_true h).elim
  rUuid := fun _ => by kernel_rfl
  rString := fun _ => by kernel_rfl
  rUnsafeString := fun _ => by kernel_rfl
  rCompactString := fun _ => by kernel_rfl
  rUnsafeCompactString := fun _ => by kernel_rfl
  rNullableString := fun _ => by kernel_rfl
  rUnsafeNullableString := fun _ => by kernel_rfl
  rCompactNullableString := fun _ => by kernel_rfl
  rUnsafeCompactNullableString := fun _ => by kernel_rfl
  rBytes := fun h => (Bool.false_ne_true h).elim
  rCompactBytes := fun h => (Bool.false_ne_true h).elim
  rNullableBytes := fun h => (Bool.false_ne_true h).elim
  rCompactNullableBytes := fun h => (Bool.false_ne_true h).elim
  rArrayLen := fun _ => by kernel_rfl
  rCompactArrayLen := fun _ => by kernel_rfl
  tSet := fun _ => by kernel_rfl
  tRead := fun _ => by kernel_rfl
theorem frlib : FrLib Tryz.prog F where
  mixed := mixed
  fmtNew := by kernel_rfl
  client := by kernel_rfl
  client1 := by kernel_rfl
  apply := by kernel_rfl
  req := by kernel_rfl
  framed := by kernel_rfl
  body1 := by kernel_rfl
  bodyA := by kernel_rfl
  meth := by kernel_rfl
  i16 := by kernel_rfl
  u16 := by kernel_rfl
  i32 := by kernel_rfl
  u32 := by kernel_rfl
  nstr := by kernel_rfl
  str := by kernel_rfl
theorem libA : LibA Tryz.prog F has where
  mixed := mixed
  kAppendBool := fun h => (Bool.false_ne_true h).elim
  kAppendInt8 := fun h => (Bool.false_ne_true h).elim
  kAppendInt16 := fun _ => by kernel_rfl
  kAppendUint16 := fun _ => by kernel_rfl
  kAppendInt32 := fun _ => by kernel_rfl
  kAppendUint32 := fun _ => by kernel_rfl
  kAppendInt64 := fun h => (Bool.false_ne_true h).elim
  kAppendUint64 := fun h => (Bool.false_ne_true h).elim
  kAppendUuid := fun _ => by kernel_rfl
  kAppendUvarint := fun _ => by kernel_rfl
  kUvarintLen := fun _ => by kernel_rfl
  bLen32 := fun _ => by kernel_rfl
  kAppendString := fun _ => by kernel_rfl
  kAppendCompactString := fun _ => by kernel_rfl
  kAppendNullableString := fun _ => by kernel_rfl
  kAppendCompactNullableString := fun _ => by kernel_rfl
  kAppendBytes := fun h => (Bool.false_ne_true h).elim
  kAppendCompactBytes := fun h => (Bool.false_ne_true h).elim
  kAppendArrayLen := fun _ => by kernel_rfl
  kAppendCompactArrayLen := fun _ => by kernel_rfl
  kAppendNullableArrayLen := fun _ => by kernel_rfl
  kAppendCompactNullableArrayLen := fun _ => by kernel_rfl
  tLen := fun _ => by kernel_rfl
  tAppendEach := fun _ => by kernel_rfl
  tAppendEach1 := fun _ => by kernel_rfl
  tEach := fun _ => by kernel_rfl
  body1 := fun _ => by kernel_rfl
  sort := fun _ => sortC
theorem slib : SLib Tryz.prog F where
  mixed := mixed
  has := by kernel_rfl
  null := by kernel_rfl
  whole := by kernel_rfl
  things := by kernel_rfl
  at_ := by kernel_rfl
  uvarint := by kernel_rfl
  fixed := by kernel_rfl
  width := by kernel_rfl
  counted := by kernel_rfl
  value := by kernel_rfl
  field := by kernel_rfl
  known := by kernel_rfl
  unknown := by kernel_rfl
  part := by kernel_rfl
  write := by kernel_rfl

end Go.Proofs.YtopfpehiaddeaaaGreatDoor
