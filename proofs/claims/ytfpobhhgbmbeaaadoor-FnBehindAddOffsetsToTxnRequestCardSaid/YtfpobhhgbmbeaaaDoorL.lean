/-
  The numbers of the generic functions in this program, and that these functions are as the framework says.
-/
import Derived.Test.YtfpobhhgbmbeaaaDoorFr
import Derived.Test.YtfpobhhgbmbeaaaDoorChecked
namespace Go.Proofs.YtfpobhhgbmbeaaaDoor
open Go.Msk Go.Proofs
set_option maxRecDepth 100000

/-- The numbers of the generic functions. -/
def fTbl : List Nat := [1, 2, 122, 123, 115, 0, 128, 129, 0, 0, 145, 0, 139, 138, 119, 120, 134, 135, 0, 0, 0, 0, 133, 132, 0, 0, 116, 0, 118, 117, 137, 146, 89, 90, 84, 121, 96, 130, 97, 131, 0, 0, 91, 125, 86, 108, 0, 0, 101, 100, 0, 0, 85, 0, 0, 0, 136, 144, 152, 140, 92, 126, 143, 93, 127, 124, 0, 0, 0, 0, 0, 0, 0, 0, 14, 0, 0, 11, 36, 73, 0, 82, 110, 77, 80, 113, 114, 111, 112, 76, 79, 78, 81, 39, 15, 17, 0, 0, 0, 0, 0, 0, 0, 0, 0, 0, 75, 109, 192, 141, 162, 0, 0, 142, 0, 0, 0, 0, 0, 0, 137]
def F (c : Nat) : Nat := fTbl.getD c 0 - 1
def has (c : Nat) : Bool := Nat.blt 0 (fTbl.getD c 0)

theorem mixed : Tryd.prog.follows .mixedOrders = true := by kernel_rfl
def Tryd.sa6_ren : Go.Shelf.Ren := ⟨fun | 6 => 141 | 10 => 146 | 11 => 147 | 12 => 148 | 13 => 149 | 14 => 150 | 24 => 140 | 25 => 161 | 26 => 162 | 27 => 163 | 28 => 164 | 29 => 165 | 30 => 166 | 31 => 167 | 32 => 168 | 33 => 169 | 34 => 170 | 35 => 171 | 36 => 172 | 37 => 173 | 38 => 174 | 39 => 175 | n => n, fun | 20 => 20 | 26 => 138 | 35 => 146 | 0 => 0 | 37 => 148 | 3 => 3 | 41 => 111 | 44 => 153 | 49 => 64 | 51 => 77 | 4 => 4 | 54 => 161 | 53 => 160 | 58 => 165 | 5 => 5 | 9 => 9 | 60 => 167 | 64 => 170 | 66 => 172 | 67 => 173 | 17 => 17 | 32 => 143 | 33 => 144 | 82 => 188 | 12 => 12 | 75 => 181 | 76 => 182 | 77 => 183 | 78 => 184 | 79 => 185 | 80 => 186 | n => n, fun | n => n⟩
theorem Tryd.sa6 : Go.Proofs.LaysGg.n6 Tryd.prog Tryd.sa6_ren where
  mixed := by kernel_rfl
  f6 := Tryd.func141.trans (congrArg some (by kernel_rfl))
  f10 := Tryd.func146.trans (congrArg some (by kernel_rfl))
  f11 := Tryd.func147.trans (congrArg some (by kernel_rfl))
  f12 := Tryd.func148.trans (congrArg some (by kernel_rfl))
  f13 := Tryd.func149.trans (congrArg some (by kernel_rfl))
  f14 := Tryd.func150.trans (congrArg some (by kernel_rfl))
  f24 := Tryd.func140.trans (congrArg some (by kernel_rfl))
  f25 := Tryd.func161.trans (congrArg some (by kernel_rfl))
  f26 := Tryd.func162.trans (congrArg some (by kernel_rfl))
  f27 := Tryd.func163.trans (congrArg some (by kernel_rfl))
  f28 := Tryd.func164.trans (congrArg some (by kernel_rfl))
  f29 := Tryd.func165.trans (congrArg some (by kernel_rfl))
  f30 := Tryd.func166.trans (congrArg some (by kernel_rfl))
  f31 := Tryd.func167.trans (congrArg some (by kernel_rfl))
  f32 := Tryd.func168.trans (congrArg some (by kernel_rfl))
  f33 := Tryd.func169.trans (congrArg some (by kernel_rfl))
  f34 := Tryd.func170.trans (congrArg some (by kernel_rfl))
  f35 := Tryd.func171.trans (congrArg some (by kernel_rfl))
  f36 := Tryd.func172.trans (congrArg some (by kernel_rfl))
  f37 := Tryd.func173.trans (congrArg some (by kernel_rfl))
  f38 := Tryd.func174.trans (congrArg some (by kernel_rfl))
  f39 := Tryd.func175.trans (congrArg some (by kernel_rfl))
  t0 := Tryd.underlying0
  a0 := Tryd.isAgg0
  z0 := Tryd.sizeOf0
  v0 := Tryd.zeroValue0
  i0 := by kernel_rfl
  t3 := Tryd.underlying3
  a3 := Tryd.isAgg3
  z3 := Tryd.sizeOf3
  v3 := Tryd.zeroValue3
  i3 := by kernel_rfl
  t4 := Tryd.underlying4
  a4 := Tryd.isAgg4
  z4 := Tryd.sizeOf4
  v4 := Tryd.zeroValue4
  i4 := by kernel_rfl
  t5 := Tryd.underlying5
  a5 := Tryd.isAgg5
  z5 := Tryd.sizeOf5
  v5 := Tryd.zeroValue5
  i5 := by kernel_rfl
  t9 := Tryd.underlying9
  a9 := Tryd.isAgg9
  z9 := Tryd.sizeOf9
  v9 := Tryd.zeroValue9
  i9 := by kernel_rfl
  t12 := Tryd.underlying12
  a12 := Tryd.isAgg12
  z12 := Tryd.sizeOf12
  v12 := Tryd.zeroValue12
  i12 := by kernel_rfl
  t17 := Tryd.underlying17
  a17 := Tryd.isAgg17
  z17 := Tryd.sizeOf17
  v17 := Tryd.zeroValue17
  i17 := by kernel_rfl
  t20 := Tryd.underlying20
  a20 := Tryd.isAgg20
  z20 := Tryd.sizeOf20
  v20 := Tryd.zeroValue20
  i20 := by kernel_rfl
  t26 := Tryd.underlying138
  a26 := Tryd.isAgg138
  z26 := Tryd.sizeOf138
  v26 := Tryd.zeroValue138
  i26 := by kernel_rfl
  t32 := Tryd.underlying143
  a32 := Tryd.isAgg143
  z32 := Tryd.sizeOf143
  v32 := Tryd.zeroValue143
  i32 := by kernel_rfl
  t33 := Tryd.underlying144
  a33 := Tryd.isAgg144
  z33 := Tryd.sizeOf144
  v33 := Tryd.zeroValue144
  i33 := by kernel_rfl
  t35 := Tryd.underlying146
  a35 := Tryd.isAgg146
  z35 := Tryd.sizeOf146
  v35 := Tryd.zeroValue146
  i35 := by kernel_rfl
  t37 := Tryd.underlying148
  a37 := Tryd.isAgg148
  z37 := Tryd.sizeOf148
  v37 := Tryd.zeroValue148
  i37 := by kernel_rfl
  t41 := Tryd.underlying111
  a41 := Tryd.isAgg111
  z41 := Tryd.sizeOf111
  v41 := Tryd.zeroValue111
  i41 := by kernel_rfl
  t44 := Tryd.underlying153
  a44 := Tryd.isAgg153
  z44 := Tryd.sizeOf153
  v44 := Tryd.zeroValue153
  i44 := by kernel_rfl
  t49 := Tryd.underlying64
  a49 := Tryd.isAgg64
  z49 := Tryd.sizeOf64
  v49 := Tryd.zeroValue64
  i49 := by kernel_rfl
  t51 := Tryd.underlying77
  a51 := Tryd.isAgg77
  z51 := Tryd.sizeOf77
  v51 := Tryd.zeroValue77
  i51 := by kernel_rfl
  t53 := Tryd.underlying160
  a53 := Tryd.isAgg160
  z53 := Tryd.sizeOf160
  v53 := Tryd.zeroValue160
  i53 := by kernel_rfl
  t54 := Tryd.underlying161
  a54 := Tryd.isAgg161
  z54 := Tryd.sizeOf161
  v54 := Tryd.zeroValue161
  i54 := by kernel_rfl
  t58 := Tryd.underlying165
  a58 := Tryd.isAgg165
  z58 := Tryd.sizeOf165
  v58 := Tryd.zeroValue165
  i58 := by kernel_rfl
  t60 := Tryd.underlying167
  a60 := Tryd.isAgg167
  z60 := Tryd.sizeOf167
  v60 := Tryd.zeroValue167
  i60 := by kernel_rfl
  t64 := Tryd.underlying170
  a64 := Tryd.isAgg170
  z64 := Tryd.sizeOf170
  v64 := Tryd.zeroValue170
  i64 := by kernel_rfl
  t66 := Tryd.underlying172
  a66 := Tryd.isAgg172
  z66 := Tryd.sizeOf172
  v66 := Tryd.zeroValue172
  i66 := by kernel_rfl
  t67 := Tryd.underlying173
  a67 := Tryd.isAgg173
  z67 := Tryd.sizeOf173
  v67 := Tryd.zeroValue173
  i67 := by kernel_rfl
  t75 := Tryd.underlying181
  a75 := Tryd.isAgg181
  z75 := Tryd.sizeOf181
  v75 := Tryd.zeroValue181
  i75 := by kernel_rfl
  t76 := Tryd.underlying182
  a76 := Tryd.isAgg182
  z76 := Tryd.sizeOf182
  v76 := Tryd.zeroValue182
  i76 := by kernel_rfl
  t77 := Tryd.underlying183
  a77 := Tryd.isAgg183
  z77 := Tryd.sizeOf183
  v77 := Tryd.zeroValue183
  i77 := by kernel_rfl
  t78 := Tryd.underlying184
  a78 := Tryd.isAgg184
  z78 := Tryd.sizeOf184
  v78 := Tryd.zeroValue184
  i78 := by kernel_rfl
  t79 := Tryd.underlying185
  a79 := Tryd.isAgg185
  z79 := Tryd.sizeOf185
  v79 := Tryd.zeroValue185
  i79 := by kernel_rfl
  t80 := Tryd.underlying186
  a80 := Tryd.isAgg186
  z80 := Tryd.sizeOf186
  v80 := Tryd.zeroValue186
  i80 := by kernel_rfl
  t82 := Tryd.underlying188
  a82 := Tryd.isAgg188
  z82 := Tryd.sizeOf188
  v82 := Tryd.zeroValue188
  i82 := by kernel_rfl

open Go.Shelf Go.RowKit Go.Lib Go.Sort in
theorem sortC : SortC Tryd.prog (F sortSlice) (F tEach1) (F tyU32s) :=
  sortC_of Tryd.sa6 mixed (by kernel_rfl) (by kernel_rfl) (e := 64) (i := (Tryd.prog.info? 136).get (by kernel_rfl)) (ie := (Tryd.prog.info? 64).get (by kernel_rfl)) (by kernel_rfl) (by kernel_rfl) (by kernel_rfl) (by kernel_rfl) 10 (fun _ => by kernel_rfl) (by kernel_rfl) (fun _ => by kernel_rfl) (by kernel_rfl) (by kernel_rfl)
    (enters_of Tryd.func142 (by kernel_rfl) rfl) 152 153 157 (by kernel_rfl) (by kernel_rfl) (by kernel_rfl) true
    (fun args W => run_callFunc_extern Tryd.func157 (by kernel_rfl) (by kernel_rfl) (by kernel_rfl) (e := Extern.ReflectliteSwapper.swap true) (by kernel_rfl) args W)

theorem lib : Lib Tryd.prog F has where
  mixed := mixed
  beUint16 := fun _ => by kernel_rfl
  beUint32 := fun _ => by kernel_rfl
  beUint64 := fun _ => by kernel_rfl
  kUvarint := fun _ => by kernel_rfl
  kUnsafeString := fun _ => by kernel_rfl
  rOk := fun _ => by kernel_rfl
  rComplete := fun _ => by kernel_rfl
  rSpan := fun _ => by kernel_rfl
  rUvarint := fun _ => by kernel_rfl
  rReadUint64 := fun _ => by kernel_rfl
  rBool := fun _ => by kernel_rfl
  rInt8 := fun _ => by kernel_rfl
  rInt16 := fun _ => by kernel_rfl
  rUint16 := fun h => (Bool.false_ne_true h).elim
  rInt32 := fun _ => by kernel_rfl
  rInt64 := fun _ => by kernel_rfl
  rUuid := fun h => (Bool.false_ne_true h).elim
  rString := fun _ => by kernel_rfl
  rUnsafeString := fun _ => by kernel_rfl
  rCompactString := fun _ => by kernel_rfl
  rUnsafeCompactString := fun _ => by kernel_rfl
  rNullableString := fun h => (Bool.false_ne_true h).elim
  rUnsafeNullableString := fun h => (Bool.false_ne_true h).elim
  rCompactNullableString := fun h => (Bool.false_ne_true h).elim
  rUnsafeCompactNullableString := fun h => (Bool.false_ne_true h).elim
  rBytes := fun _ => by kernel_rfl
  rCompactBytes := fun _ => by kernel_rfl
  rNullableBytes := fun h => (Bool.false_ne_true h).elim
  rCompactNullableBytes := fun h => (Bool.false_ne_true h).elim
  rArrayLen := fun _ => by kernel_rfl
  rCompactArrayLen := fun h => (Bool.false_ne_true h).elim
  tSet := fun _ => by kernel_rfl
  tRead := fun _ => by kernel_rfl
theorem libA : LibA Tryd.prog F has where
  mixed := mixed
  kAppendBool := fun _ => by kernel_rfl
  kAppendInt8 := fun _ => by kernel_rfl
  kAppendInt16 := fun _ => by kernel_rfl
  kAppendUint16 := fun _ => by kernel_rfl
  kAppendInt32 := fun _ => by kernel_rfl
  kAppendUint32 := fun _ => by kernel_rfl
  kAppendInt64 := fun _ => by kernel_rfl
  kAppendUint64 := fun _ => by kernel_rfl
  kAppendUuid := fun h => (Bool.false_ne_true h).elim
  kAppendUvarint := fun _ => by kernel_rfl
  kUvarintLen := fun _ => by kernel_rfl
  bLen32 := fun _ => by kernel_rfl
  kAppendString := fun _ => by kernel_rfl
  kAppendCompactString := fun _ => by kernel_rfl
  kAppendNullableString := fun h => (Bool.false_ne_true h).elim
  kAppendCompactNullableString := fun h => (Bool.false_ne_true h).elim
  kAppendBytes := fun _ => by kernel_rfl
  kAppendCompactBytes := fun _ => by kernel_rfl
  kAppendArrayLen := fun _ => by kernel_rfl
  kAppendCompactArrayLen := fun h => (Bool.false_ne_true h).elim
  kAppendNullableArrayLen := fun h => (Bool.false_ne_true h).elim
  kAppendCompactNullableArrayLen := fun h => (Bool.false_ne_true h).elim
  tLen := fun _ => by kernel_rfl
  tAppendEach := fun _ => by kernel_rfl
  tAppendEach1 := fun _ => by kernel_rfl
  tEach := fun _ => by kernel_rfl
  body1 := fun _ => by kernel_rfl
  sort := fun _ => sortC
theorem slib : SLib Tryd.prog F where
  mixed := mixed
  has := by kernel_rfl
  null := by kernel_rfl
  whole := by kernel_rfl
  things := by kernel_rfl
  at_ := by kernel_rfl
  uvarint := by kernel_rfl
  fixed := by kernel_rfl
  width := by kernel_rfl
  counted := by kernel_rfl
  value := by kernel_rfl
  field := by kernel_rfl
  known := by kernel_rfl
  unknown := by kernel_rfl
  part := by kernel_rfl
  write := by kernel_rfl

end Go.Proofs.YtfpobhhgbmbeaaaDoor
