/-
  The numbers of the generic functions in this program, and that these functions are as the framework says.
-/
import Derived.Test.YtebigehbjfnfjaaFo
import Derived.Test.YtebigehbjfnfjaaChecked
namespace Go.Proofs.Ytebigehbjfnfjaa
open Go.Msk Go.Proofs
set_option maxRecDepth 100000

/-- The numbers of the generic functions. -/
def fTbl : List Nat := [1, 1, 0, 0, 0, 0, 0, 0, 0, 0, 0, 0, 0, 0, 0, 0, 0, 0, 0, 0, 0, 0, 0, 0, 0, 0, 0, 0, 0, 0, 0, 0, 104, 90, 112, 132, 107, 131, 116, 136, 0, 117, 91, 124, 103, 102, 0, 0, 0, 0, 0, 0, 89, 88, 109, 108, 0, 0, 0, 87, 92, 125, 141, 93, 126, 0, 86, 134, 0, 0, 0, 0, 0, 0, 14, 17, 0, 11, 38, 84, 0, 47, 95, 45, 100, 129, 130, 127, 128, 98, 99, 96, 46, 48, 19, 15, 18, 44, 0, 0, 0, 0, 0, 0, 0, 0, 97, 94, 187, 139, 157, 0, 0, 140, 0, 0, 0, 0, 0, 0, 181]
def F (c : Nat) : Nat := fTbl.getD c 0 - 1
def has (c : Nat) : Bool := Nat.blt 0 (fTbl.getD c 0)

theorem mixed : Try.prog.follows .mixedOrders = true := by kernel_rfl
def Try.sa6_ren : Go.Shelf.Ren := ⟨fun | 6 => 139 | 10 => 142 | 11 => 143 | 12 => 144 | 13 => 145 | 14 => 146 | 24 => 138 | 25 => 156 | 26 => 157 | 27 => 158 | 28 => 159 | 29 => 160 | 30 => 161 | 31 => 162 | 32 => 163 | 33 => 164 | 34 => 165 | 35 => 166 | 36 => 167 | 37 => 168 | 38 => 169 | 39 => 170 | n => n, fun | 20 => 20 | 26 => 182 | 35 => 187 | 0 => 0 | 37 => 189 | 3 => 3 | 41 => 167 | 44 => 194 | 49 => 60 | 51 => 119 | 4 => 4 | 54 => 201 | 53 => 200 | 58 => 205 | 5 => 5 | 9 => 9 | 60 => 207 | 64 => 211 | 66 => 213 | 67 => 214 | 17 => 17 | 32 => 184 | 33 => 185 | 82 => 229 | 12 => 12 | 75 => 222 | 76 => 223 | 77 => 224 | 78 => 225 | 79 => 226 | 80 => 227 | n => n, fun | n => n⟩
theorem Try.sa6 : Go.Proofs.LaysGg.n6 Try.prog Try.sa6_ren where
  mixed := by kernel_rfl
  f6 := Try.func139.trans (congrArg some (by kernel_rfl))
  f10 := Try.func142.trans (congrArg some (by kernel_rfl))
  f11 := Try.func143.trans (congrArg some (by kernel_rfl))
  f12 := Try.func144.trans (congrArg some (by kernel_rfl))
  f13 := Try.func145.trans (congrArg some (by kernel_rfl))
  f14 := Try.func146.trans (congrArg some (by kernel_rfl))
  f24 := Try.func138.trans (congrArg some (by kernel_rfl))
  f25 := Try.func156.trans (congrArg some (by kernel_rfl))
  f26 := Try.func157.trans (congrArg some (by kernel_rfl))
  f27 := Try.func158.trans (congrArg some (by kernel_rfl))
  f28 := Try.func159.trans (congrArg some (by kernel_rfl))
  f29 := Try.func160.trans (congrArg some (by kernel_rfl))
  f30 := Try.func161.trans (congrArg some (by kernel_rfl))
  f31 := Try.func162.trans (congrArg some (by kernel_rfl))
  f32 := Try.func163.trans (congrArg some (by kernel_rfl))
  f33 := Try.func164.trans (congrArg some (by kernel_rfl))
  f34 := Try.func165.trans (congrArg some (by kernel_rfl))
  f35 := Try.func166.trans (congrArg some (by kernel_rfl))
  f36 := Try.func167.trans (congrArg some (by kernel_rfl))
  f37 := Try.func168.trans (congrArg some (by kernel_rfl))
  f38 := Try.func169.trans (congrArg some (by kernel_rfl))
  f39 := Try.func170.trans (congrArg some (by kernel_rfl))
  t0 := Try.underlying0
  a0 := Try.isAgg0
  z0 := Try.sizeOf0
  v0 := Try.zeroValue0
  i0 := by kernel_rfl
  t3 := Try.underlying3
  a3 := Try.isAgg3
  z3 := Try.sizeOf3
  v3 := Try.zeroValue3
  i3 := by kernel_rfl
  t4 := Try.underlying4
  a4 := Try.isAgg4
  z4 := Try.sizeOf4
  v4 := Try.zeroValue4
  i4 := by kernel_rfl
  t5 := Try.underlying5
  a5 := Try.isAgg5
  z5 := Try.sizeOf5
  v5 := Try.zeroValue5
  i5 := by kernel_rfl
  t9 := Try.underlying9
  a9 := Try.isAgg9
  z9 := Try.sizeOf9
  v9 := Try.zeroValue9
  i9 := by kernel_rfl
  t12 := Try.underlying12
  a12 := Try.isAgg12
  z12 := Try.sizeOf12
  v12 := Try.zeroValue12
  i12 := by kernel_rfl
  t17 := Try.underlying17
  a17 := Try.isAgg17
  z17 := Try.sizeOf17
  v17 := Try.zeroValue17
  i17 := by kernel_rfl
  t20 := Try.underlying20
  a20 := Try.isAgg20
  z20 := Try.sizeOf20
  v20 := Try.zeroValue20
  i20 := by kernel_rfl
  t26 := Try.underlying182
  a26 := Try.isAgg182
  z26 := Try.sizeOf182
  v26 := Try.zeroValue182
  i26 := by kernel_rfl
  t32 := Try.underlying184
  a32 := Try.isAgg184
  z32 := Try.sizeOf184
  v32 := Try.zeroValue184
  i32 := by kernel_rfl
  t33 := Try.underlying185
  a33 := Try.isAgg185
  z33 := Try.sizeOf185
  v33 := Try.zeroValue185
  i33 := by kernel_rfl
  t35 := Try.underlying187
  a35 := Try.isAgg187
  z35 := Try.sizeOf187
  v35 := Try.zeroValue187
  i35 := by kernel_rfl
  t37 := Try.underlying189
  a37 := Try.isAgg189
  z37 := Try.sizeOf189
  v37 := Try.zeroValue189
  i37 := by kernel_rfl
  t41 := Try.underlying167
  a41 := Try.isAgg167
  z41 := Try.sizeOf167
  v41 := Try.zeroValue167
  i41 := by kernel_rfl
  t44 := Try.underlying194
  a44 := Try.isAgg194
  z44 := Try.sizeOf194
  v44 := Try.zeroValue194
  i44 := by kernel_rfl
  t49 := Try.underlying60
  a49 := Try.isAgg60
  z49 := Try.sizeOf60
  v49 := Try.zeroValue60
  i49 := by kernel_rfl
  t51 := Try.underlying119
  a51 := Try.isAgg119
  z51 := Try.sizeOf119
  v51 := Try.zeroValue119
  i51 := by kernel_rfl
  t53 := Try.underlying200
  a53 := Try.isAgg200
  z53 := Try.sizeOf200
  v53 := Try.zeroValue200
  i53 := by kernel_rfl
  t54 := Try.underlying201
  a54 := Try.isAgg201
  z54 := Try.sizeOf201
  v54 := Try.zeroValue201
  i54 := by kernel_rfl
  t58 := Try.underlying205
  a58 := Try.isAgg205
  z58 := Try.sizeOf205
  v58 := Try.zeroValue205
  i58 := by kernel_rfl
  t60 := Try.underlying207
  a60 := Try.isAgg207
  z60 := Try.sizeOf207
  v60 := Try.zeroValue207
  i60 := by kernel_rfl
  t64 := Try.underlying211
  a64 := Try.isAgg211
  z64 := Try.sizeOf211
  v64 := Try.zeroValue211
  i64 := by kernel_rfl
  t66 := Try.underlying213
  a66 := Try.isAgg213
  z66 := Try.sizeOf213
  v66 := Try.zeroValue213
  i66 := by kernel_rfl
  t67 := Try.underlying214
  a67 := Try.isAgg214
  z67 := Try.sizeOf214
  v67 := Try.zeroValue214
  i67 := by kernel_rfl
  t75 := Try.underlying222
  a75 := Try.isAgg222
  z75 := Try.sizeOf222
  v75 := Try.zeroValue222
  i75 := by kernel_rfl
  t76 := Try.underlying223
  a76 := Try.isAgg223
  z76 := Try.sizeOf223
  v76 := Try.zeroValue223
  i76 := by kernel_rfl
  t77 := Try.underlying224
  a77 := Try.isAgg224
  z77 := Try.sizeOf224
  v77 := Try.zeroValue224
  i77 := by kernel_rfl
  t78 := Try.underlying225
  a78 := Try.isAgg225
  z78 := Try.sizeOf225
  v78 := Try.zeroValue225
  i78 := by kernel_rfl
  t79 := Try.underlying226
  a79 := Try.isAgg226
  z79 := Try.sizeOf226
  v79 := Try.zeroValue226
  i79 := by kernel_rfl
  t80 := Try.underlying227
  a80 := Try.isAgg227
  z80 := Try.sizeOf227
  v80 := Try.zeroValue227
  i80 := by kernel_rfl
  t82 := Try.underlying229
  a82 := Try.isAgg229
  z82 := Try.sizeOf229
  v82 := Try.zeroValue229
  i82 := by kernel_rfl

open Go.Shelf Go.RowKit Go.Lib Go.Sort in
theorem sortC : SortC Try.prog (F sortSlice) (F tEach1) (F tyU32s) :=
  sortC_of Try.sa6 mixed (by kernel_rfl) (by kernel_rfl) (e := 60) (i := (Try.prog.info? 180).get (by kernel_rfl)) (ie := (Try.prog.info? 60).get (by kernel_rfl)) (by kernel_rfl) (by kernel_rfl) (by kernel_rfl) (by kernel_rfl) 10 (fun _ => by kernel_rfl) (by kernel_rfl) (fun _ => by kernel_rfl) (by kernel_rfl) (by kernel_rfl)
    (enters_of Try.func140 (by kernel_rfl) rfl) 147 148 152 (by kernel_rfl) (by kernel_rfl) (by kernel_rfl) true
    (fun args W => run_callFunc_extern Try.func152 (by kernel_rfl) (by kernel_rfl) (by kernel_rfl) (e := Extern.ReflectliteSwapper.swap true) (by kernel_rfl) args W)

theorem lib : Lib Try.prog F has where
  mixed := mixed
  beUint16 := fun h => (Bool.false_ne_true h).elim
  beUint32 := fun h => (Bool.false_ne_true h).elim
  beUint64 := fun h => (Bool.false_ne_true h).elim
  kUvarint := fun h => (Bool.false_ne_true h).elim
  kUnsafeString := fun h => (Bool.false_ne_true h).elim
  rOk := fun h => (Bool.false_ne_true h).elim
  rComplete := fun h => (Bool.false_ne_true h).elim
  rSpan := fun h => (Bool.false_ne_true h).elim
  rUvarint := fun h => (Bool.false_ne_true h).elim
  rReadUint64 := fun h => (Bool.false_ne_true h).elim
  rBool := fun h => (Bool.false_ne_true h).elim
  rInt8 := fun h => (Bool.false_ne_true h).elim
  rInt16 := fun h => (Bool.false_ne_true h).elim
  rUint16 := fun h => (Bool.false_ne_true h).elim
  rInt32 := fun h => (Bool.false_ne_true h).elim
  rInt64 := fun h => (Bool.false_ne_true h).elim
  rUuid := fun h => (Bool.false_ne_true h).elim
  rString := fun h => (Bool.false_ne_true h).elim
  rUnsafeString := fun h => (Bool.false_ne_true h).elim
  rCompactString := fun h => (Bool.false_ne_true h).elim
  rUnsafeCompactString := fun h => (Bool.false_ne_true h).elim
  rNullableString := fun h => (Bool.false_ne_true h).elim
  rUnsafeNullableString := fun h => (Bool.false_ne_true h).elim
  rCompactNullableString := fun h => (Bool.false_ne_true h).elim
  rUnsafeCompactNullableString := fun h => (Bool.false_ne_true h).elim
  rBytes := fun h => (Bool.false_ne_true h).elim
  rCompactBytes := fun h => (Bool.false_ne_true h).elim
  rNullableBytes := fun h => (Bool.false_ne_true h).elim
  rCompactNullableBytes := fun h => (Bool.false_ne_true h).elim
  rArrayLen := fun h => (Bool.false_ne_true h).elim
  rCompactArrayLen := fun h => (Bool.false_ne_true h).elim
  tSet := fun _ => by kernel_rfl
  tRead := fun h => (Bool.false_ne_true h).elim
theorem libM : LibM Try.prog F has where
  mixed := mixed
  iAt := by kernel_rfl
  iSixteen := fun _ => by kernel_rfl
  tSet := fun _ => by kernel_rfl
theorem libA : LibA Try.prog F has where
  mixed := mixed
  kAppendBool := fun _ => by kernel_rfl
  kAppendInt8 := fun _ => by kernel_rfl
  kAppendInt16 := fun _ => by kernel_rfl
  kAppendUint16 := fun _ => by kernel_rfl
  kAppendInt32 := fun _ => by kernel_rfl
  kAppendUint32 := fun _ => by kernel_rfl
  kAppendInt64 := fun _ => by kernel_rfl
  kAppendUint64 := fun _ => by kernel_rfl
  kAppendUuid := fun _ => by kernel_rfl
  kAppendUvarint := fun _ => by kernel_rfl
  kUvarintLen := fun _ => by kernel_rfl
  bLen32 := fun _ => by kernel_rfl
  kAppendString := fun _ => by kernel_rfl
  kAppendCompactString := fun _ => by kernel_rfl
  kAppendNullableString := fun h => (Bool.false_ne_true h).elim
  kAppendCompactNullableString := fun h => (Bool.false_ne_true h).elim
  kAppendBytes := fun h => (Bool.false_ne_true h).elim
  kAppendCompactBytes := fun h => (Bool.false_ne_true h).elim
  kAppendArrayLen := fun _ => by kernel_rfl
  kAppendCompactArrayLen := fun _ => by kernel_rfl
  kAppendNullableArrayLen := fun _ => by kernel_rfl
  kAppendCompactNullableArrayLen := fun _ => by kernel_rfl
  tLen := fun _ => by kernel_rfl
  tAppendEach := fun _ => by kernel_rfl
  tAppendEach1 := fun _ => by kernel_rfl
  tEach := fun _ => by kernel_rfl
  body1 := fun _ => by kernel_rfl
  sort := fun _ => sortC
theorem slib : SLib Try.prog F where
  mixed := mixed
  has := by kernel_rfl
  null := by kernel_rfl
  whole := by kernel_rfl
  things := by kernel_rfl
  at_ := by kernel_rfl
  uvarint := by kernel_rfl
  fixed := by kernel_rfl
  width := by kernel_rfl
  counted := by kernel_rfl
  value := by kernel_rfl
  field := by kernel_rfl
  known := by kernel_rfl
  unknown := by kernel_rfl
  part := by kernel_rfl
  write := by kernel_rfl

end Go.Proofs.Ytebigehbjfnfjaa
