/-
  The numbers of the generic functions in this program, and that these functions are as the framework says.
-/
import Derived.Test.YtcknmmkgmlkhaaaGreatDoorFq
import Derived.Test.YtcknmmkgmlkhaaaGreatDoorChecked
namespace Go.Proofs.YtcknmmkgmlkhaaaGreatDoor
open Go.Msk Go.Proofs
set_option maxRecDepth 100000

/-- The numbers of the generic functions. -/
def fTbl : List Nat := [2, 1, 162, 182, 175, 170, 141, 142, 160, 0, 194, 0, 190, 192, 137, 139, 136, 138, 157, 158, 155, 156, 0, 0, 0, 0, 132, 131, 134, 133, 191, 209, 0, 0, 0, 0, 0, 0, 0, 0, 0, 0, 0, 0, 0, 0, 0, 0, 0, 0, 0, 0, 0, 0, 0, 0, 203, 193, 210, 195, 254, 95, 147, 0, 0, 143, 0, 0, 0, 0, 113, 106, 0, 97, 14, 0, 18, 11, 37, 91, 0, 104, 149, 46, 102, 152, 154, 150, 151, 99, 101, 100, 103, 45, 16, 153, 0, 0, 47, 0, 0, 0, 0, 17, 0, 0, 98, 148, 252, 220, 221, 0, 0, 146, 0, 0, 0, 0, 0, 0, 182]
def F (c : Nat) : Nat := fTbl.getD c 0 - 1
def has (c : Nat) : Bool := Nat.blt 0 (fTbl.getD c 0)

theorem mixed : Tryz.prog.follows .mixedOrders = true := by kernel_rfl
def Tryz.sa6_ren : Go.Shelf.Ren := ⟨fun | 6 => 145 | 10 => 196 | 11 => 197 | 12 => 198 | 13 => 199 | 14 => 200 | 24 => 219 | 25 => 220 | 26 => 221 | 27 => 222 | 28 => 223 | 29 => 224 | 30 => 225 | 31 => 226 | 32 => 227 | 33 => 228 | 34 => 230 | 35 => 231 | 36 => 232 | 37 => 233 | 38 => 234 | 39 => 235 | n => n, fun | 20 => 20 | 26 => 183 | 35 => 231 | 0 => 0 | 37 => 233 | 3 => 3 | 41 => 191 | 44 => 238 | 49 => 60 | 51 => 103 | 4 => 4 | 54 => 251 | 53 => 250 | 58 => 255 | 5 => 5 | 9 => 9 | 60 => 257 | 64 => 260 | 66 => 262 | 67 => 263 | 17 => 17 | 32 => 228 | 33 => 229 | 82 => 278 | 12 => 12 | 75 => 271 | 76 => 272 | 77 => 273 | 78 => 274 | 79 => 275 | 80 => 276 | n => n, fun | n => n⟩
theorem Tryz.sa6 : Go.Proofs.LaysGg.n6 Tryz.prog Tryz.sa6_ren where
  mixed := by kernel_rfl
  f6 := Tryz.func145.trans (congrArg some (by kernel_rfl))
  f10 := Tryz.func196.trans (congrArg some (by kernel_rfl))
  f11 := Tryz.func197.trans (congrArg some (by kernel_rfl))
  f12 := Tryz.func198.trans (congrArg some (by kernel_rfl))
  f13 := Tryz.func199.trans (congrArg some (by kernel_rfl))
  f14 := Tryz.func200.trans (congrArg some (by kernel_rfl))
  f24 := Tryz.func219.trans (congrArg some (by kernel_rfl))
  f25 := Tryz.func220.trans (congrArg some (by kernel_rfl))
  f26 := Tryz.func221.trans (congrArg some (by kernel_rfl))
  f27 := Tryz.func222.trans (congrArg some (by kernel_rfl))
  f28 := Tryz.func223.trans (congrArg some (by kernel_rfl))
  f29 := Tryz.func224.trans (congrArg some (by kernel_rfl))
  f30 := Tryz.func225.trans (congrArg some (by kernel_rfl))
  f31 := Tryz.func226.trans (congrArg some (by kernel_rfl))
  f32 := Tryz.func227.trans (congrArg some (by kernel_rfl))
  f33 := Tryz.func228.trans (congrArg some (by kernel_rfl))
  f34 := Tryz.func230.trans (congrArg some (by kernel_rfl))
  f35 := Tryz.func231.trans (congrArg some (by kernel_rfl))
  f36 := Tryz.func232.trans (congrArg some (by kernel_rfl))
  f37 := Tryz.func233.trans (congrArg some (by kernel_rfl))
  f38 := Tryz.func234.trans (congrArg some (by kernel_rfl))
  f39 := Tryz.func235.trans (congrArg some (by kernel_rfl))
  t0 := Tryz.underlying0
  a0 := Tryz.isAgg0
  z0 := Tryz.sizeOf0
  v0 := Tryz.zeroValue0
  i0 := by kernel_rfl
  t3 := Tryz.underlying3
  a3 := Tryz.isAgg3
  z3 := Tryz.sizeOf3
  v3 := Tryz.zeroValue3
  i3 := by kernel_rfl
  t4 := Tryz.underlying4
  a4 := Tryz.isAgg4
  z4 := Tryz.sizeOf4
  v4 := Tryz.zeroValue4
  i4 := by kernel_rfl
  t5 := Tryz.underlying5
  a5 := Tryz.isAgg5
  z5 := Tryz.sizeOf5
  v5 := Tryz.zeroValue5
  i5 := by kernel_rfl
  t9 := Tryz.underlying9
  a9 := Tryz.isAgg9
  z9 := Tryz.sizeOf9
  v9 := Tryz.zeroValue9
  i9 := by kernel_rfl
  t12 := Tryz.underlying12
  a12 := Tryz.isAgg12
  z12 := Tryz.sizeOf12
  v12 := Tryz.zeroValue12
  i12 := by kernel_rfl
  t17 := Tryz.underlying17
  a17 := Tryz.isAgg17
  z17 := Tryz.sizeOf17
  v17 := Tryz.zeroValue17
  i17 := by kernel_rfl
  t20 := Tryz.underlying20
  a20 := Tryz.isAgg20
  z20 := Tryz.sizeOf20
  v20 := Tryz.zeroValue20
  i20 := by kernel_rfl
  t26 := Tryz.underlying183
  a26 := Tryz.isAgg183
  z26 := Tryz.sizeOf183
  v26 := Tryz.zeroValue183
  i26 := by kernel_rfl
  t32 := Tryz.underlying228
  a32 := Tryz.isAgg228
  z32 := Tryz.sizeOf228
  v32 := Tryz.zeroValue228
  i32 := by kernel_rfl
  t33 := Tryz.underlying229
  a33 := Tryz.isAgg229
  z33 := Tryz.sizeOf229
  v33 := Tryz.zeroValue229
  i33 := by kernel_rfl
  t35 := Tryz.underlying231
  a35 := Tryz.isAgg231
  z35 := Tryz.sizeOf231
  v35 := Tryz.zeroValue231
  i35 := by kernel_rfl
  t37 := Tryz.underlying233
  a37 := Tryz.isAgg233
  z37 := Tryz.sizeOf233
  v37 := Tryz.zeroValue233
  i37 := by kernel_rfl
  t41 := Tryz.underlying191
  a41 := Tryz.isAgg191
  z41 := Tryz.sizeOf191
  v41 := Tryz.zeroValue191
  i41 := by kernel_rfl
  t44 := Tryz.underlying238
  a44 := Tryz.isAgg238
  z44 := Tryz.sizeOf238
  v44 := Tryz.zeroValue238
  i44 := by kernel_rfl
  t49 := Tryz.underlying60
  a49 := Tryz.isAgg60
  z49 := Tryz.sizeOf60
  v49 := Tryz.zeroValue60
  i49 := by kernel_rfl
  t51 := Tryz.underlying103
  a51 := Tryz.isAgg103
  z51 := Tryz.sizeOf103
  v51 := Tryz.zeroValue103
  i51 := by kernel_rfl
  t53 := Tryz.underlying250
  a53 := Tryz.isAgg250
  z53 := Tryz.sizeOf250
  v53 := Tryz.zeroValue250
  i53 := by kernel_rfl
  t54 := Tryz.underlying251
  a54 := Tryz.isAgg251
  z54 := Tryz.sizeOf251
  v54 := Tryz.zeroValue251
  i54 := by kernel_rfl
  t58 := Tryz.underlying255
  a58 := Tryz.isAgg255
  z58 := Tryz.sizeOf255
  v58 := Tryz.zeroValue255
  i58 := by kernel_rfl
  t60 := Tryz.underlying257
  a60 := Tryz.isAgg257
  z60 := Tryz.sizeOf257
  v60 := Tryz.zeroValue257
  i60 := by kernel_rfl
  t64 := Tryz.underlying260
  a64 := Tryz.isAgg260
  z64 := Tryz.sizeOf260
  v64 := Tryz.zeroValue260
  i64 := by kernel_rfl
  t66 := Tryz.underlying262
  a66 := Tryz.isAgg262
  z66 := Tryz.sizeOf262
  v66 := Tryz.zeroValue262
  i66 := by kernel_rfl
  t67 := Tryz.underlying263
  a67 := Tryz.isAgg263
  z67 := Tryz.sizeOf263
  v67 := Tryz.zeroValue263
  i67 := by kernel_rfl
  t75 := Tryz.underlying271
  a75 := Tryz.isAgg271
  z75 := Tryz.sizeOf271
  v75 := Tryz.zeroValue271
  i75 := by kernel_rfl
  t76 := Tryz.underlying272
  a76 := Tryz.isAgg272
  z76 := Tryz.sizeOf272
  v76 := Tryz.zeroValue272
  i76 := by kernel_rfl
  t77 := Tryz.underlying273
  a77 := Tryz.isAgg273
  z77 := Tryz.sizeOf273
  v77 := Tryz.zeroValue273
  i77 := by kernel_rfl
  t78 := Tryz.underlying274
  a78 := Tryz.isAgg274
  z78 := Tryz.sizeOf274
  v78 := Tryz.zeroValue274
  i78 := by kernel_rfl
  t79 := Tryz.underlying275
  a79 := Tryz.isAgg275
  z79 := Tryz.sizeOf275
  v79 := Tryz.zeroValue275
  i79 := by kernel_rfl
  t80 := Tryz.underlying276
  a80 := Tryz.isAgg276
  z80 := Tryz.sizeOf276
  v80 := Tryz.zeroValue276
  i80 := by kernel_rfl
  t82 := Tryz.underlying278
  a82 := Tryz.isAgg278
  z82 := Tryz.sizeOf278
  v82 := Tryz.zeroValue278
  i82 := by kernel_rfl

open Go.Shelf Go.RowKit Go.Lib Go.Sort in
theorem sortC : SortC Tryz.prog (F sortSlice) (F tEach1) (F tyU32s) :=
  sortC_of Tryz.sa6 mixed (by kernel_rfl) (by kernel_rfl) (e := 60) (i := (Tryz.prog.info? 181).get (by kernel_rfl)) (ie := (Tryz.prog.info? 60).get (by kernel_rfl)) (by kernel_rfl) (by kernel_rfl) (by kernel_rfl) (by kernel_rfl) 10 (fun _ => by kernel_rfl) (by kernel_rfl) (fun _ => by kernel_rfl) (by kernel_rfl) (by kernel_rfl)
    (enters_of Tryz.func146 (by kernel_rfl) rfl) 210 211 215 (by kernel_rfl) (by kernel_rfl) (by kernel_rfl) true
    (fun args W => run_callFunc_extern Tryz.func215 (by kernel_rfl) (by kernel_rfl) (by kernel_rfl) (e := Extern.ReflectliteSwapper.swap true) (by kernel_rfl) args W)

theorem lib : Lib Tryz.prog F has where
  mixed := mixed
  beUint16 := fun _ => by kernel_rfl
  beUint32 := fun _ => by kernel_rfl
  beUint64 := fun _ => by kernel_rfl
  kUvarint := fun _ => by kernel_rfl
  kUnsafeString := fun _ => by kernel_rfl
  rOk := fun _ => by kernel_rfl
  rComplete := fun _ => by kernel_rfl
  rSpan := fun _ => by kernel_rfl
  rUvarint := fun _ => by kernel_rfl
  rReadUint64 := fun _ => by kernel_rfl
  rBool := fun _ => by kernel_rfl
  rInt8 := fun _ => by kernel_rfl
  rInt16 := fun _ => by kernel_rfl
  rUint16 := fun _ => by kernel_rfl
  rInt32 := fun _ => by kernel_rfl
  rInt64 := fun _ => by kernel_rfl
  rUuid := fun _ => by kernel_rfl
  rString := fun _ => by kernel_rfl
  rUnsafeString := fun _ => by kernel_rfl
  rCompactString := fun _ => by kernel_rfl
  rUnsafeCompactString := fun _ => by kernel_rfl
  rNullableString := fun _ => by kernel_rfl
  rUnsafeNullableString := fun _ => by kernel_rfl
  rCompactNullableString := fun _ => by kernel_rfl
  rUnsafeCompactNullableString := fun _ => by kernel_rfl
  rBytes := fun h => (Bool.false_ne_true h).elim
  rCompactBytes := fun h => (Bool.false_ne_true h).elim
  rNullableBytes := fun h => (Bool.false_ne_true h).elim
  rCompactNullableBytes := fun h => (Bool.false_ne_true h).elim
  rArrayLen := fun _ => by kernel_rfl
  rCompactArrayLen := fun _ => by kernel_rfl
  tSet := fun _ => by kernel_rfl
  tRead := fun _ => by kernel_rfl
theorem libI : LibI Tryz.prog F has where
  iBoolTree := fun _ => by kernel_rfl
  iTextTree := fun _ => by kernel_rfl
  iOctetsTree := fun h => (Bool.false_ne_true h).elim
  tEach := fun _ => by kernel_rfl
  iSorted := fun _ => by kernel_rfl
  sort := fun _ => sortC
theorem slib : SLib Tryz.prog F where
  mixed := mixed
  has := by kernel_rfl
  null := by kernel_rfl
  whole := by kernel_rfl
  things := by kernel_rfl
  at_ := by kernel_rfl
  uvarint := by kernel_rfl
  fixed := by kernel_rfl
  width := by kernel_rfl
  counted := by kernel_rfl
  value := by kernel_rfl
  field := by kernel_rfl
  known := by kernel_rfl
  unknown := by kernel_rfl
  part := by kernel_rfl
  write := by kernel_rfl

end Go.Proofs.YtcknmmkgmlkhaaaGreatDoor
