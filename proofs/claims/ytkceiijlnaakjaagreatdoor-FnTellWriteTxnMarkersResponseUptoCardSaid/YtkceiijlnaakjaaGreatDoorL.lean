/-
  The numbers of the generic functions in this program, and that these functions are as the framework says.
-/
import Derived.Test.YtkceiijlnaakjaaGreatDoorFs
import Derived.Test.YtkceiijlnaakjaaGreatDoorChecked
namespace Go.Proofs.YtkceiijlnaakjaaGreatDoor
open Go.Msk Go.Proofs
set_option maxRecDepth 100000

/-- The numbers of the generic functions. -/
def fTbl : List Nat := [1, 2, 149, 143, 115, 0, 105, 129, 140, 0, 164, 0, 154, 156, 112, 114, 111, 113, 118, 119, 116, 117, 0, 0, 0, 0, 107, 106, 109, 108, 155, 173, 0, 0, 0, 0, 0, 0, 0, 0, 0, 0, 0, 0, 0, 0, 0, 0, 0, 0, 0, 0, 0, 0, 0, 0, 157, 153, 193, 158, 220, 74, 124, 0, 0, 120, 0, 0, 0, 0, 170, 121, 0, 76, 12, 0, 17, 9, 30, 70, 0, 45, 83, 38, 79, 80, 81, 125, 126, 77, 40, 78, 43, 37, 14, 44, 0, 0, 84, 42, 41, 15, 0, 0, 0, 0, 39, 82, 16, 183, 184, 0, 0, 123, 0, 0, 0, 0, 0, 0, 154]
def F (c : Nat) : Nat := fTbl.getD c 0 - 1
def has (c : Nat) : Bool := Nat.blt 0 (fTbl.getD c 0)

theorem mixed : Tryz.prog.follows .mixedOrders = true := by kernel_rfl
def Tryz.sa6_ren : Go.Shelf.Ren := ⟨fun | 6 => 122 | 10 => 158 | 11 => 159 | 12 => 160 | 13 => 161 | 14 => 162 | 24 => 182 | 25 => 183 | 26 => 184 | 27 => 185 | 28 => 186 | 29 => 187 | 30 => 188 | 31 => 189 | 32 => 190 | 33 => 191 | 34 => 196 | 35 => 197 | 36 => 198 | 37 => 199 | 38 => 200 | 39 => 201 | n => n, fun | 20 => 20 | 26 => 155 | 35 => 203 | 0 => 0 | 37 => 205 | 3 => 3 | 41 => 158 | 44 => 210 | 49 => 64 | 51 => 101 | 4 => 4 | 54 => 225 | 53 => 224 | 58 => 229 | 5 => 5 | 9 => 9 | 60 => 232 | 64 => 235 | 66 => 237 | 67 => 238 | 17 => 17 | 32 => 200 | 33 => 201 | 82 => 253 | 12 => 12 | 75 => 246 | 76 => 247 | 77 => 248 | 78 => 249 | 79 => 250 | 80 => 251 | n => n, fun | n => n⟩
theorem Tryz.sa6 : Go.Proofs.LaysGg.n6 Tryz.prog Tryz.sa6_ren where
  mixed := by kernel_rfl
  f6 := Tryz.func122.trans (congrArg some (by kernel_rfl))
  f10 := Tryz.func158.trans (congrArg some (by kernel_rfl))
  f11 := Tryz.func159.trans (congrArg some (by kernel_rfl))
  f12 := Tryz.func160.trans (congrArg some (by kernel_rfl))
  f13 := Tryz.func161.trans (congrArg some (by kernel_rfl))
  f14 := Tryz.func162.trans (congrArg some (by kernel_rfl))
  f24 := Tryz.func182.trans (congrArg some (by kernel_rfl))
  f25 := Tryz.func183.trans (congrArg some (by kernel_rfl))
  f26 := Tryz.func184.trans (congrArg some (by kernel_rfl))
  f27 := Tryz.func185.trans (congrArg some (by kernel_rfl))
  f28 := Tryz.func186.trans (congrArg some (by kernel_rfl))
  f29 := Tryz.func187.trans (congrArg some (by kernel_rfl))
  f30 := Tryz.func188.trans (congrArg some (by kernel_rfl))
  f31 := Tryz.func189.trans (congrArg some (by kernel_rfl))
  f32 := Tryz.func190.trans (congrArg some (by kernel_rfl))
  f33 := Tryz.func191.trans (congrArg some (by kernel_rfl))
  f34 := Tryz.func196.trans (congrArg some (by kernel_rfl))
  f35 := Tryz.func197.trans (congrArg some (by kernel_rfl))
  f36 := Tryz.func198.trans (congrArg some (by kernel_rfl))
  f37 := Tryz.func199.trans (congrArg some (by kernel_rfl))
  f38 := Tryz.func200.trans (congrArg some (by kernel_rfl))
  f39 := Tryz.func201.trans (congrArg some (by kernel_rfl))
  t0 := Tryz.underlying0
  a0 := Tryz.isAgg0
  z0 := Tryz.sizeOf0
  v0 := Tryz.zeroValue0
  i0 := by kernel_rfl
  t3 := Tryz.underlying3
  a3 := Tryz.isAgg3
  z3 := Tryz.sizeOf3
  v3 := Tryz.zeroValue3
  i3 := by kernel_rfl
  t4 := Tryz.underlying4
  a4 := Tryz.isAgg4
  z4 := Tryz.sizeOf4
  v4 := Tryz.zeroValue4
  i4 := by kernel_rfl
  t5 := Tryz.underlying5
  a5 := Tryz.isAgg5
  z5 := Tryz.sizeOf5
  v5 := Tryz.zeroValue5
  i5 := by kernel_rfl
  t9 := Tryz.underlying9
  a9 := Tryz.isAgg9
  z9 := Tryz.sizeOf9
  v9 := Tryz.zeroValue9
  i9 := by kernel_rfl
  t12 := Tryz.underlying12
  a12 := Tryz.isAgg12
  z12 := Tryz.sizeOf12
  v12 := Tryz.zeroValue12
  i12 := by kernel_rfl
  t17 := Tryz.underlying17
  a17 := Tryz.isAgg17
  z17 := Tryz.sizeOf17
  v17 := Tryz.zeroValue17
  i17 := by kernel_rfl
  t20 := Tryz.underlying20
  a20 := Tryz.isAgg20
  z20 := Tryz.sizeOf20
  v20 := Tryz.zeroValue20
  i20 := by kernel_rfl
  t26 := Tryz.underlying155
  a26 := Tryz.isAgg155
  z26 := Tryz.sizeOf155
  v26 := Tryz.zeroValue155
  i26 := by kernel_rfl
  t32 := Tryz.underlying200
  a32 := Tryz.isAgg200
  z32 := Tryz.sizeOf200
  v32 := Tryz.zeroValue200
  i32 := by kernel_rfl
  t33 := Tryz.underlying201
  a33 := Tryz.isAgg201
  z33 := Tryz.sizeOf201
  v33 := Tryz.zeroValue201
  i33 := by kernel_rfl
  t35 := Tryz.underlying203
  a35 := Tryz.isAgg203
  z35 := Tryz.sizeOf203
  v35 := Tryz.zeroValue203
  i35 := by kernel_rfl
  t37 := Tryz.underlying205
  a37 := Tryz.isAgg205
  z37 := Tryz.sizeOf205
  v37 := Tryz.zeroValue205
  i37 := by kernel_rfl
  t41 := Tryz.underlying158
  a41 := Tryz.isAgg158
  z41 := Tryz.sizeOf158
  v41 := Tryz.zeroValue158
  i41 := by kernel_rfl
  t44 := Tryz.underlying210
  a44 := Tryz.isAgg210
  z44 := Tryz.sizeOf210
  v44 := Tryz.zeroValue210
  i44 := by kernel_rfl
  t49 := Tryz.underlying64
  a49 := Tryz.isAgg64
  z49 := Tryz.sizeOf64
  v49 := Tryz.zeroValue64
  i49 := by kernel_rfl
  t51 := Tryz.underlying101
  a51 := Tryz.isAgg101
  z51 := Tryz.sizeOf101
  v51 := Tryz.zeroValue101
  i51 := by kernel_rfl
  t53 := Tryz.underlying224
  a53 := Tryz.isAgg224
  z53 := Tryz.sizeOf224
  v53 := Tryz.zeroValue224
  i53 := by kernel_rfl
  t54 := Tryz.underlying225
  a54 := Tryz.isAgg225
  z54 := Tryz.sizeOf225
  v54 := Tryz.zeroValue225
  i54 := by kernel_rfl
  t58 := Tryz.underlying229
  a58 := Tryz.isAgg229
  z58 := Tryz.sizeOf229
  v58 := Tryz.zeroValue229
  i58 := by kernel_rfl
  t60 := Tryz.underlying232
  a60 := Tryz.isAgg232
  z60 := Tryz.sizeOf232
  v60 := Tryz.zeroValue232
  i60 := by kernel_rfl
  t64 := Tryz.underlying235
  a64 := Tryz.isAgg235
  z64 := Tryz.sizeOf235
  v64 := Tryz.zeroValue235
  i64 := by kernel_rfl
  t66 := Tryz.underlying237
  a66 := Tryz.isAgg237
  z66 := Tryz.sizeOf237
  v66 := Tryz.zeroValue237
  i66 := by kernel_rfl
  t67 := Tryz.underlying238
  a67 := Tryz.isAgg238
  z67 := Tryz.sizeOf238
  v67 := Tryz.zeroValue238
  i67 := by kernel_rfl
  t75 := Tryz.underlying246
  a75 := Tryz.isAgg246
  z75 := Tryz.sizeOf246
  v75 := Tryz.zeroValue246
  i75 := by kernel_rfl
  t76 := Tryz.underlying247
  a76 := Tryz.isAgg247
  z76 := Tryz.sizeOf247
  v76 := Tryz.zeroValue247
  i76 := by kernel_rfl
  t77 := Tryz.underlying248
  a77 := Tryz.isAgg248
  z77 := Tryz.sizeOf248
  v77 := Tryz.zeroValue248
  i77 := by kernel_rfl
  t78 := Tryz.underlying249
  a78 := Tryz.isAgg249
  z78 := Tryz.sizeOf249
  v78 := Tryz.zeroValue249
  i78 := by kernel_rfl
  t79 := Tryz.underlying250
  a79 := Tryz.isAgg250
  z79 := Tryz.sizeOf250
  v79 := Tryz.zeroValue250
  i79 := by kernel_rfl
  t80 := Tryz.underlying251
  a80 := Tryz.isAgg251
  z80 := Tryz.sizeOf251
  v80 := Tryz.zeroValue251
  i80 := by kernel_rfl
  t82 := Tryz.underlying253
  a82 := Tryz.isAgg253
  z82 := Tryz.sizeOf253
  v82 := Tryz.zeroValue253
  i82 := by kernel_rfl

open Go.Shelf Go.RowKit Go.Lib Go.Sort in
theorem sortC : SortC Tryz.prog (F sortSlice) (F tEach1) (F tyU32s) :=
  sortC_of Tryz.sa6 mixed (by kernel_rfl) (by kernel_rfl) (e := 64) (i := (Tryz.prog.info? 153).get (by kernel_rfl)) (ie := (Tryz.prog.info? 64).get (by kernel_rfl)) (by kernel_rfl) (by kernel_rfl) (by kernel_rfl) (by kernel_rfl) 10 (fun _ => by kernel_rfl) (by kernel_rfl) (fun _ => by kernel_rfl) (by kernel_rfl) (by kernel_rfl)
    (enters_of Tryz.func123 (by kernel_rfl) rfl) 173 174 178 (by kernel_rfl) (by kernel_rfl) (by kernel_rfl) true
    (fun args W => run_callFunc_extern Tryz.func178 (by kernel_rfl) (by kernel_rfl) (by kernel_rfl) (e := Extern.ReflectliteSwapper.swap true) (by kernel_rfl) args W)

theorem lib : Lib Tryz.prog F has where
  mixed := mixed
  beUint16 := fun _ => by kernel_rfl
  beUint32 := fun _ => by kernel_rfl
  beUint64 := fun _ => by kernel_rfl
  kUvarint := fun _ => by kernel_rfl
  kUnsafeString := fun _ => by kernel_rfl
  rOk := fun _ => by kernel_rfl
  rComplete := fun _ => by kernel_rfl
  rSpan := fun _ => by kernel_rfl
  rUvarint := fun _ => by kernel_rfl
  rReadUint64 := fun _ => by kernel_rfl
  rBool := fun _ => by kernel_rfl
  rInt8 := fun _ => by kernel_rfl
  rInt16 := fun _ => by kernel_rfl
  rUint16 := fun h => (Bool.false_ne_true h).elim
  rInt32 := fun _ => by kernel_rfl
  rInt64 := fun _ => by kernel_rfl
  rUuid := fun _ => by kernel_rfl
  rString := fun _ => by kernel_rfl
  rUnsafeString := fun _ => by kernel_rfl
  rCompactString := fun _ => by kernel_rfl
  rUnsafeCompactString := fun _ => by kernel_rfl
  rNullableString := fun _ => by kernel_rfl
  rUnsafeNullableString := fun _ => by kernel_rfl
  rCompactNullableString := fun _ => by kernel_rfl
  rUnsafeCompactNullableString := fun _ => by kernel_rfl
  rBytes := fun h => (Bool.false_ne_true h).elim
  rCompactBytes := fun h => (Bool.false_ne_true h).elim
  rNullableBytes := fun h => (Bool.false_ne_true h).elim
  rCompactNullableBytes := fun h => (Bool.false_ne_true h).elim
  rArrayLen := fun _ => by kernel_rfl
  rCompactArrayLen := fun _ => by kernel_rfl
  tSet := fun _ => by kernel_rfl
  tRead := fun _ => by kernel_rfl
theorem libI : LibI Tryz.prog F has where
  iBoolTree := fun _ => by kernel_rfl
  iTextTree := fun _ => by kernel_rfl
  iOctetsTree := fun h => (Bool.false_ne_true h).elim
  tEach := fun _ => by kernel_rfl
  iSorted := fun _ => by kernel_rfl
  sort := fun _ => sortC
theorem slib : SLib Tryz.prog F where
  mixed := mixed
  has := by kernel_rfl
  null := by kernel_rfl
  whole := by kernel_rfl
  things := by kernel_rfl
  at_ := by kernel_rfl
  uvarint := by kernel_rfl
  fixed := by kernel_rfl
  width := by kernel_rfl
  counted := by kernel_rfl
  value := by kernel_rfl
  field := by kernel_rfl
  known := by kernel_rfl
  unknown := by kernel_rfl
  part := by kernel_rfl
  write := by kernel_rfl

end Go.Proofs.YtkceiijlnaakjaaGreatDoor
