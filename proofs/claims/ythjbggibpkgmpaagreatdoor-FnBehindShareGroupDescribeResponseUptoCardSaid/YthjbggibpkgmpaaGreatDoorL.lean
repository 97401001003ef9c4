/-
  The numbers of the generic functions in this program, and that these functions are as the framework says.
-/
import Derived.Test.YthjbggibpkgmpaaGreatDoorFp
import Derived.Test.YthjbggibpkgmpaaGreatDoorChecked
namespace Go.Proofs.YthjbggibpkgmpaaGreatDoor
open Go.Msk Go.Proofs
set_option maxRecDepth 100000

/-- The numbers of the generic functions. -/
def fTbl : List Nat := [2, 1, 210, 207, 196, 230, 195, 223, 202, 0, 247, 0, 238, 240, 188, 190, 187, 189, 199, 200, 197, 198, 0, 0, 0, 0, 184, 183, 186, 185, 239, 249, 155, 151, 142, 170, 141, 203, 166, 224, 0, 145, 136, 192, 135, 134, 144, 143, 0, 0, 0, 0, 133, 132, 0, 0, 246, 245, 255, 241, 137, 193, 244, 138, 194, 191, 0, 0, 0, 0, 0, 0, 0, 0, 18, 0, 0, 15, 52, 121, 0, 130, 178, 125, 128, 181, 182, 179, 180, 124, 127, 126, 129, 55, 19, 21, 0, 0, 0, 0, 0, 0, 0, 0, 0, 0, 123, 177, 295, 242, 265, 0, 0, 243, 0, 0, 0, 0, 0, 0, 265]
def F (c : Nat) : Nat := fTbl.getD c 0 - 1
def has (c : Nat) : Bool := Nat.blt 0 (fTbl.getD c 0)

theorem mixed : Tryz.prog.follows .mixedOrders = true := by kernel_rfl
def Tryz.sa6_ren : Go.Shelf.Ren := ⟨fun | 6 => 242 | 10 => 249 | 11 => 250 | 12 => 251 | 13 => 252 | 14 => 253 | 24 => 241 | 25 => 264 | 26 => 265 | 27 => 266 | 28 => 267 | 29 => 268 | 30 => 269 | 31 => 270 | 32 => 271 | 33 => 272 | 34 => 273 | 35 => 274 | 36 => 275 | 37 => 276 | 38 => 277 | 39 => 278 | n => n, fun | 20 => 20 | 26 => 266 | 35 => 277 | 0 => 0 | 37 => 279 | 3 => 3 | 41 => 242 | 44 => 284 | 49 => 73 | 51 => 89 | 4 => 4 | 54 => 292 | 53 => 291 | 58 => 296 | 5 => 5 | 9 => 9 | 60 => 298 | 64 => 301 | 66 => 303 | 67 => 304 | 17 => 17 | 32 => 274 | 33 => 275 | 82 => 319 | 12 => 12 | 75 => 312 | 76 => 313 | 77 => 314 | 78 => 315 | 79 => 316 | 80 => 317 | n => n, fun | n => n⟩
theorem Tryz.sa6 : Go.Proofs.LaysGg.n6 Tryz.prog Tryz.sa6_ren where
  mixed := by kernel_rfl
  f6 := Tryz.func242.trans (congrArg some (by kernel_rfl))
  f10 := Tryz.func249.trans (congrArg some (by kernel_rfl))
  f11 := Tryz.func250.trans (congrArg some (by kernel_rfl))
  f12 := Tryz.func251.trans (congrArg some (by kernel_rfl))
  f13 := Tryz.func252.trans (congrArg some (by kernel_rfl))
  f14 := Tryz.func253.trans (congrArg some (by kernel_rfl))
  f24 := Tryz.func241.trans (congrArg some (by kernel_rfl))
  f25 := Tryz.func264.trans (congrArg some (by kernel_rfl))
  f26 := Tryz.func265.trans (congrArg some (by kernel_rfl))
  f27 := Tryz.func266.trans (congrArg some (by kernel_rfl))
  f28 := Tryz.func267.trans (congrArg some (by kernel_rfl))
  f29 := Tryz.func268.trans (congrArg some (by kernel_rfl))
  f30 := Tryz.func269.trans (congrArg some (by kernel_rfl))
  f31 := Tryz.func270.trans (congrArg some (by kernel_rfl))
  f32 := Tryz.func271.trans (congrArg some (by kernel_rfl))
  f33 := Tryz.func272.trans (congrArg some (by kernel_rfl))
  f34 := Tryz.func273.trans (congrArg some (by kernel_rfl))
  f35 := Tryz.func274.trans (congrArg some (by kernel_rfl))
  f36 := Tryz.func275.trans (congrArg some (by kernel_rfl))
  f37 := Tryz.func276.trans (congrArg some (by kernel_rfl))
  f38 := Tryz.func277.trans (congrArg some (by kernel_rfl))
  f39 := Tryz.func278.trans (congrArg some (by kernel_rfl))
  t0 := Tryz.underlying0
  a0 := Tryz.isAgg0
  z0 := Tryz.sizeOf0
  v0 := Tryz.zeroValue0
  i0 := by kernel_rfl
  t3 := Tryz.underlying3
  a3 := Tryz.isAgg3
  z3 := Tryz.sizeOf3
  v3 := Tryz.zeroValue3
  i3 := by kernel_rfl
  t4 := Tryz.underlying4
  a4 := Tryz.isAgg4
  z4 := Tryz.sizeOf4
  v4 := Tryz.zeroValue4
  i4 := by kernel_rfl
  t5 := Tryz.underlying5
  a5 := Tryz.isAgg5
  z5 := Tryz.sizeOf5
  v5 := Tryz.zeroValue5
  i5 := by kernel_rfl
  t9 := Tryz.underlying9
  a9 := Tryz.isAgg9
  z9 := Tryz.sizeOf9
  v9 := Tryz.zeroValue9
  i9 := by kernel_rfl
  t12 := Tryz.underlying12
  a12 := Tryz.isAgg12
  z12 := Tryz.sizeOf12
  v12 := Tryz.zeroValue12
  i12 := by kernel_rfl
  t17 := Tryz.underlying17
  a17 := Tryz.isAgg17
  z17 := Tryz.sizeOf17
  v17 := Tryz.zeroValue17
  i17 := by kernel_rfl
  t20 := Tryz.underlying20
  a20 := Tryz.isAgg20
  z20 := Tryz.sizeOf20
  v20 := Tryz.zeroValue20
  i20 := by kernel_rfl
  t26 := Tryz.underlying266
  a26 := Tryz.isAgg266
  z26 := Tryz.sizeOf266
  v26 := Tryz.zeroValue266
  i26 := by kernel_rfl
  t32 := Tryz.underlying274
  a32 := Tryz.isAgg274
  z32 := Tryz.sizeOf274
  v32 := Tryz.zeroValue274
  i32 := by kernel_rfl
  t33 := Tryz.underlying275
  a33 := Tryz.isAgg275
  z33 := Tryz.sizeOf275
  v33 := Tryz.zeroValue275
  i33 := by kernel_rfl
  t35 := Tryz.underlying277
  a35 := Tryz.isAgg277
  z35 := Tryz.sizeOf277
  v35 := Tryz.zeroValue277
  i35 := by kernel_rfl
  t37 := Tryz.underlying279
  a37 := Tryz.isAgg279
  z37 := Tryz.sizeOf279
  v37 := Tryz.zeroValue279
  i37 := by kernel_rfl
  t41 := Tryz.underlying242
  a41 := Tryz.isAgg242
  z41 := Tryz.sizeOf242
  v41 := Tryz.zeroValue242
  i41 := by kernel_rfl
  t44 := Tryz.underlying284
  a44 := Tryz.isAgg284
  z44 := Tryz.sizeOf284
  v44 := Tryz.zeroValue284
  i44 := by kernel_rfl
  t49 := Tryz.underlying73
  a49 := Tryz.isAgg73
  z49 := Tryz.sizeOf73
  v49 := Tryz.zeroValue73
  i49 := by kernel_rfl
  t51 := Tryz.underlying89
  a51 := Tryz.isAgg89
  z51 := Tryz.sizeOf89
  v51 := Tryz.zeroValue89
  i51 := by kernel_rfl
  t53 := Tryz.underlying291
  a53 := Tryz.isAgg291
  z53 := Tryz.sizeOf291
  v53 := Tryz.zeroValue291
  i53 := by kernel_rfl
  t54 := Tryz.underlying292
  a54 := Tryz.isAgg292
  z54 := Tryz.sizeOf292
  v54 := Tryz.zeroValue292
  i54 := by kernel_rfl
  t58 := Tryz.underlying296
  a58 := Tryz.isAgg296
  z58 := Tryz.sizeOf296
  v58 := Tryz.zeroValue296
  i58 := by kernel_rfl
  t60 := Tryz.underlying298
  a60 := Tryz.isAgg298
  z60 := Tryz.sizeOf298
  v60 := Tryz.zeroValue298
  i60 := by kernel_rfl
  t64 := Tryz.underlying301
  a64 := Tryz.isAgg301
  z64 := Tryz.sizeOf301
  v64 := Tryz.zeroValue301
  i64 := by kernel_rfl
  t66 := Tryz.underlying303
  a66 := Tryz.isAgg303
  z66 := Tryz.sizeOf303
  v66 := Tryz.zeroValue303
  i66 := by kernel_rfl
  t67 := Tryz.underlying304
  a67 := Tryz.isAgg304
  z67 := Tryz.sizeOf304
  v67 := Tryz.zeroValue304
  i67 := by kernel_rfl
  t75 := Tryz.underlying312
  a75 := Tryz.isAgg312
  z75 := Tryz.sizeOf312
  v75 := Tryz.zeroValue312
  i75 := by kernel_rfl
  t76 := Tryz.underlying313
  a76 := Tryz.isAgg313
  z76 := Tryz.sizeOf313
  v76 := Tryz.zeroValue313
  i76 := by kernel_rfl
  t77 := Tryz.underlying314
  a77 := Tryz.isAgg314
  z77 := Tryz.sizeOf314
  v77 := Tryz.zeroValue314
  i77 := by kernel_rfl
  t78 := Tryz.underlying315
  a78 := Tryz.isAgg315
  z78 := Tryz.sizeOf315
  v78 := Tryz.zeroValue315
  i78 := by kernel_rfl
  t79 := Tryz.underlying316
  a79 := Tryz.isAgg316
  z79 := Tryz.sizeOf316
  v79 := Tryz.zeroValue316
  i79 := by kernel_rfl
  t80 := Tryz.underlying317
  a80 := Tryz.isAgg317
  z80 := Tryz.sizeOf317
  v80 := Tryz.zeroValue317
  i80 := by kernel_rfl
  t82 := Tryz.underlying319
  a82 := Tryz.isAgg319
  z82 := Tryz.sizeOf319
  v82 := Tryz.zeroValue319
  i82 := by kernel_rfl

open Go.Shelf Go.RowKit Go.Lib Go.Sort in
theorem sortC : SortC Tryz.prog (F sortSlice) (F tEach1) (F tyU32s) :=
  sortC_of Tryz.sa6 mixed (by kernel_rfl) (by kernel_rfl) (e := 73) (i := (Tryz.prog.info? 264).get (by kernel_rfl)) (ie := (Tryz.prog.info? 73).get (by kernel_rfl)) (by kernel_rfl) (by kernel_rfl) (by kernel_rfl) (by kernel_rfl) 10 (fun _ => by kernel_rfl) (by kernel_rfl) (fun _ => by kernel_rfl) (by kernel_rfl) (by kernel_rfl)
    (enters_of Tryz.func243 (by kernel_rfl) rfl) 255 256 260 (by kernel_rfl) (by kernel_rfl) (by kernel_rfl) true
    (fun args W => run_callFunc_extern Tryz.func260 (by kernel_rfl) (by kernel_rfl) (by kernel_rfl) (e := Extern.ReflectliteSwapper.swap true) (by kernel_rfl) args W)

theorem lib : Lib Tryz.prog F has where
  mixed := mixed
  beUint16 := fun _ => by kernel_rfl
  beUint32 := fun _ => by kernel_rfl
  beUint64 := fun _ => by kernel_rfl
  kUvarint := fun _ => by kernel_rfl
  kUnsafeString := fun _ => by kernel_rfl
  rOk := fun _ => by kernel_rfl
  rComplete := fun _ => by kernel_rfl
  rSpan := fun _ => by kernel_rfl
  rUvarint := fun _ => by kernel_rfl
  rReadUint64 := fun _ => by kernel_rfl
  rBool := fun _ => by kernel_rfl
  rInt8 := fun _ => by kernel_rfl
  rInt16 := fun _ => by kernel_rfl
  rUint16 := fun _ => by kernel_rfl
  rInt32 := fun _ => by kernel_rfl
  rInt64 := fun _ => by kernel_rfl
  rUuid := fun _ => by kernel_rfl
  rString := fun _ => by kernel_rfl
  rUnsafeString := fun _ => by kernel_rfl
  rCompactString := fun _ => by kernel_rfl
  rUnsafeCompactString := fun _ => by kernel_rfl
  rNullableString := fun _ => by kernel_rfl
  rUnsafeNullableString := fun _ => by kernel_rfl
  rCompactNullableString := fun _ => by kernel_rfl
  rUnsafeCompactNullableString := fun _ => by kernel_rfl
  rBytes := fun h => (Bool.false_ne_true h).elim
  rCompactBytes := fun h => (Bool.false_ne_true h).elim
  rNullableBytes := fun h => (Bool.false_ne_true h).elim
  rCompactNullableBytes := fun h => (Bool.false_ne_true h).elim
  rArrayLen := fun _ => by kernel_rfl
  rCompactArrayLen := fun _ => by kernel_rfl
  tSet := fun _ => by kernel_rfl
  tRead := fun _ => by kernel_rfl
theorem libA : LibA Tryz.prog F has where
  mixed := mixed
  kAppendBool := fun _ => by kernel_rfl
  kAppendInt8 := fun _ => by kernel_rfl
  kAppendInt16 := fun _ => by kernel_rfl
  kAppendUint16 := fun _ => by kernel_rfl
  kAppendInt32 := fun _ => by kernel_rfl
  kAppendUint32 := fun _ => by kernel_rfl
  kAppendInt64 := fun _ => by kernel_rfl
  kAppendUint64 := fun _ => by kernel_rfl
  kAppendUuid := fun _ => by kernel_rfl
  kAppendUvarint := fun _ => by kernel_rfl
  kUvarintLen := fun _ => by kernel_rfl
  bLen32 := fun _ => by kernel_rfl
  kAppendString := fun _ => by kernel_rfl
  kAppendCompactString := fun _ => by kernel_rfl
  kAppendNullableString := fun _ => by kernel_rfl
  kAppendCompactNullableString := fun _ => by kernel_rfl
  kAppendBytes := fun h => (Bool.false_ne_true h).elim
  kAppendCompactBytes := fun h => (Bool.false_ne_true h).elim
  kAppendArrayLen := fun _ => by kernel_rfl
  kAppendCompactArrayLen := fun _ => by kernel_rfl
  kAppendNullableArrayLen := fun h => (Bool.false_ne_true h).elim
  kAppendCompactNullableArrayLen := fun h => (Bool.false_ne_true h).elim
  tLen := fun _ => by kernel_rfl
  tAppendEach := fun _ => by kernel_rfl
  tAppendEach1 := fun _ => by kernel_rfl
  tEach := fun _ => by kernel_rfl
  body1 := fun _ => by kernel_rfl
  sort := fun _ => sortC
theorem slib : SLib Tryz.prog F where
  mixed := mixed
  has := by kernel_rfl
  null := by kernel_rfl
  whole := by kernel_rfl
  things := by kernel_rfl
  at_ := by kernel_rfl
  uvarint := by kernel_rfl
  fixed := by kernel_rfl
  width := by kernel_rfl
  counted := by kernel_rfl
  value := by kernel_rfl
  field := by kernel_rfl
  known := by kernel_rfl
  unknown := by kernel_rfl
  part := by kernel_rfl
  write := by kernel_rfl

end Go.Proofs.YthjbggibpkgmpaaGreatDoor
