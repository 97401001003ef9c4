/-
  The numbers of the generic functions in this program, and that these functions are as the framework says.
-/
import Derived.Test.YtieneknlekaonaaDoorFn
import Derived.Test.YtieneknlekaonaaDoorChecked
namespace Go.Proofs.YtieneknlekaonaaDoor
open Go.Msk Go.Proofs
set_option maxRecDepth 100000

/-- The numbers of the generic functions. -/
def fTbl : List Nat := [1, 2, 202, 198, 182, 0, 176, 206, 209, 0, 247, 0, 235, 238, 189, 191, 188, 190, 185, 186, 183, 184, 212, 211, 227, 226, 178, 177, 180, 179, 237, 255, 0, 0, 0, 0, 0, 0, 0, 0, 0, 0, 0, 0, 0, 0, 0, 0, 0, 0, 0, 0, 0, 0, 0, 0, 236, 234, 275, 239, 302, 131, 196, 0, 0, 192, 0, 0, 0, 0, 141, 136, 213, 133, 18, 0, 21, 0, 0, 0, 0, 0, 0, 0, 0, 0, 0, 0, 0, 0, 0, 0, 0, 0, 0, 61, 0, 0, 0, 0, 0, 0, 20, 0, 0, 0, 0, 0, 0, 265, 266, 0, 0, 195, 0, 0, 0, 0, 0, 0, 187]
def F (c : Nat) : Nat := fTbl.getD c 0 - 1
def has (c : Nat) : Bool := Nat.blt 0 (fTbl.getD c 0)

theorem mixed : Tryd.prog.follows .mixedOrders = true := by kernel_rfl
def Tryd.sa6_ren : Go.Shelf.Ren := ⟨fun | 6 => 194 | 10 => 240 | 11 => 241 | 12 => 242 | 13 => 243 | 14 => 244 | 24 => 264 | 25 => 265 | 26 => 266 | 27 => 267 | 28 => 268 | 29 => 269 | 30 => 270 | 31 => 271 | 32 => 272 | 33 => 273 | 34 => 277 | 35 => 278 | 36 => 279 | 37 => 280 | 38 => 281 | 39 => 282 | n => n, fun | 20 => 20 | 26 => 188 | 35 => 238 | 0 => 0 | 37 => 240 | 3 => 3 | 41 => 243 | 44 => 246 | 49 => 48 | 51 => 247 | 4 => 4 | 54 => 260 | 53 => 259 | 58 => 264 | 5 => 5 | 9 => 9 | 60 => 267 | 64 => 270 | 66 => 272 | 67 => 273 | 17 => 17 | 32 => 235 | 33 => 236 | 82 => 288 | 12 => 12 | 75 => 281 | 76 => 282 | 77 => 283 | 78 => 284 | 79 => 285 | 80 => 286 | n => n, fun | n => n⟩
theorem Tryd.sa6 : Go.Proofs.LaysGg.n6 Tryd.prog Tryd.sa6_ren where
  mixed := by kernel_rfl
  f6 := Tryd.func194.trans (congrArg some (by kernel_rfl))
  f10 := Tryd.func240.trans (congrArg some (by kernel_rfl))
  f11 := Tryd.func241.trans (congrArg some (by kernel_rfl))
  f12 := Tryd.func242.trans (congrArg some (by kernel_rfl))
  f13 := Tryd.func243.trans (congrArg some (by kernel_rfl))
  f14 := Tryd.func244.trans (congrArg some (by kernel_rfl))
  f24 := Tryd.func264.trans (congrArg some (by kernel_rfl))
  f25 := Tryd.func265.trans (congrArg some (by kernel_rfl))
  f26 := Tryd.func266.trans (congrArg some (by kernel_rfl))
  f27 := Tryd.func267.trans (congrArg some (by kernel_rfl))
  f28 := Tryd.func268.trans (congrArg some (by kernel_rfl))
  f29 := Tryd.func269.trans (congrArg some (by kernel_rfl))
  f30 := Tryd.func270.trans (congrArg some (by kernel_rfl))
  f31 := Tryd.func271.trans (congrArg some (by kernel_rfl))
  f32 := Tryd.func272.trans (congrArg some (by kernel_rfl))
  f33 := Tryd.func273.trans (congrArg some (by kernel_rfl))
  f34 := Tryd.func277.trans (congrArg some (by kernel_rfl))
  f35 := Tryd.func278.trans (congrArg some (by kernel_rfl))
  f36 := Tryd.func279.trans (congrArg some (by kernel_rfl))
  f37 := Tryd.func280.trans (congrArg some (by kernel_rfl))
  f38 := Tryd.func281.trans (congrArg some (by kernel_rfl))
  f39 := Tryd.func282.trans (congrArg some (by kernel_rfl))
  t0 := Tryd.underlying0
  a0 := Tryd.isAgg0
  z0 := Tryd.sizeOf0
  v0 := Tryd.zeroValue0
  i0 := by kernel_rfl
  t3 := Tryd.underlying3
  a3 := Tryd.isAgg3
  z3 := Tryd.sizeOf3
  v3 := Tryd.zeroValue3
  i3 := by kernel_rfl
  t4 := Tryd.underlying4
  a4 := Tryd.isAgg4
  z4 := Tryd.sizeOf4
  v4 := Tryd.zeroValue4
  i4 := by kernel_rfl
  t5 := Tryd.underlying5
  a5 := Tryd.isAgg5
  z5 := Tryd.sizeOf5
  v5 := Tryd.zeroValue5
  i5 := by kernel_rfl
  t9 := Tryd.underlying9
  a9 := Tryd.isAgg9
  z9 := Tryd.sizeOf9
  v9 := Tryd.zeroValue9
  i9 := by kernel_rfl
  t12 := Tryd.underlying12
  a12 := Tryd.isAgg12
  z12 := Tryd.sizeOf12
  v12 := Tryd.zeroValue12
  i12 := by kernel_rfl
  t17 := Tryd.underlying17
  a17 := Tryd.isAgg17
  z17 := Tryd.sizeOf17
  v17 := Tryd.zeroValue17
  i17 := by kernel_rfl
  t20 := Tryd.underlying20
  a20 := Tryd.isAgg20
  z20 := Tryd.sizeOf20
  v20 := Tryd.zeroValue20
  i20 := by kernel_rfl
  t26 := Tryd.underlying188
  a26 := Tryd.isAgg188
  z26 := Tryd.sizeOf188
  v26 := Tryd.zeroValue188
  i26 := by kernel_rfl
  t32 := Tryd.underlying235
  a32 := Tryd.isAgg235
  z32 := Tryd.sizeOf235
  v32 := Tryd.zeroValue235
  i32 := by kernel_rfl
  t33 := Tryd.underlying236
  a33 := Tryd.isAgg236
  z33 := Tryd.sizeOf236
  v33 := Tryd.zeroValue236
  i33 := by kernel_rfl
  t35 := Tryd.underlying238
  a35 := Tryd.isAgg238
  z35 := Tryd.sizeOf238
  v35 := Tryd.zeroValue238
  i35 := by kernel_rfl
  t37 := Tryd.underlying240
  a37 := Tryd.isAgg240
  z37 := Tryd.sizeOf240
  v37 := Tryd.zeroValue240
  i37 := by kernel_rfl
  t41 := Tryd.underlying243
  a41 := Tryd.isAgg243
  z41 := Tryd.sizeOf243
  v41 := Tryd.zeroValue243
  i41 := by kernel_rfl
  t44 := Tryd.underlying246
  a44 := Tryd.isAgg246
  z44 := Tryd.sizeOf246
  v44 := Tryd.zeroValue246
  i44 := by kernel_rfl
  t49 := Tryd.underlying48
  a49 := Tryd.isAgg48
  z49 := Tryd.sizeOf48
  v49 := Tryd.zeroValue48
  i49 := by kernel_rfl
  t51 := Tryd.underlying247
  a51 := Tryd.isAgg247
  z51 := Tryd.sizeOf247
  v51 := Tryd.zeroValue247
  i51 := by kernel_rfl
  t53 := Tryd.underlying259
  a53 := Tryd.isAgg259
  z53 := Tryd.sizeOf259
  v53 := Tryd.zeroValue259
  i53 := by kernel_rfl
  t54 := Tryd.underlying260
  a54 := Tryd.isAgg260
  z54 := Tryd.sizeOf260
  v54 := Tryd.zeroValue260
  i54 := by kernel_rfl
  t58 := Tryd.underlying264
  a58 := Tryd.isAgg264
  z58 := Tryd.sizeOf264
  v58 := Tryd.zeroValue264
  i58 := by kernel_rfl
  t60 := Tryd.underlying267
  a60 := Tryd.isAgg267
  z60 := Tryd.sizeOf267
  v60 := Tryd.zeroValue267
  i60 := by kernel_rfl
  t64 := Tryd.underlying270
  a64 := Tryd.isAgg270
  z64 := Tryd.sizeOf270
  v64 := Tryd.zeroValue270
  i64 := by kernel_rfl
  t66 := Tryd.underlying272
  a66 := Tryd.isAgg272
  z66 := Tryd.sizeOf272
  v66 := Tryd.zeroValue272
  i66 := by kernel_rfl
  t67 := Tryd.underlying273
  a67 := Tryd.isAgg273
  z67 := Tryd.sizeOf273
  v67 := Tryd.zeroValue273
  i67 := by kernel_rfl
  t75 := Tryd.underlying281
  a75 := Tryd.isAgg281
  z75 := Tryd.sizeOf281
  v75 := Tryd.zeroValue281
  i75 := by kernel_rfl
  t76 := Tryd.underlying282
  a76 := Tryd.isAgg282
  z76 := Tryd.sizeOf282
  v76 := Tryd.zeroValue282
  i76 := by kernel_rfl
  t77 := Tryd.underlying283
  a77 := Tryd.isAgg283
  z77 := Tryd.sizeOf283
  v77 := Tryd.zeroValue283
  i77 := by kernel_rfl
  t78 := Tryd.underlying284
  a78 := Tryd.isAgg284
  z78 := Tryd.sizeOf284
  v78 := Tryd.zeroValue284
  i78 := by kernel_rfl
  t79 := Tryd.underlying285
  a79 := Tryd.isAgg285
  z79 := Tryd.sizeOf285
  v79 := Tryd.zeroValue285
  i79 := by kernel_rfl
  t80 := Tryd.underlying286
  a80 := Tryd.isAgg286
  z80 := Tryd.sizeOf286
  v80 := Tryd.zeroValue286
  i80 := by kernel_rfl
  t82 := Tryd.underlying288
  a82 := Tryd.isAgg288
  z82 := Tryd.sizeOf288
  v82 := Tryd.zeroValue288
  i82 := by kernel_rfl

open Go.Shelf Go.RowKit Go.Lib Go.Sort in
theorem sortC : SortC Tryd.prog (F sortSlice) (F tEach1) (F tyU32s) :=
  sortC_of Tryd.sa6 mixed (by kernel_rfl) (by kernel_rfl) (e := 48) (i := (Tryd.prog.info? 186).get (by kernel_rfl)) (ie := (Tryd.prog.info? 48).get (by kernel_rfl)) (by kernel_rfl) (by kernel_rfl) (by kernel_rfl) (by kernel_rfl) 10 (fun _ => by kernel_rfl) (by kernel_rfl) (fun _ => by kernel_rfl) (by kernel_rfl) (by kernel_rfl)
    (enters_of Tryd.func195 (by kernel_rfl) rfl) 255 256 260 (by kernel_rfl) (by kernel_rfl) (by kernel_rfl) true
    (fun args W => run_callFunc_extern Tryd.func260 (by kernel_rfl) (by kernel_rfl) (by kernel_rfl) (e := Extern.ReflectliteSwapper.swap true) (by kernel_rfl) args W)

theorem lib : Lib Tryd.prog F has where
  mixed := mixed
  beUint16 := fun _ => by kernel_rfl
  beUint32 := fun _ => by kernel_rfl
  beUint64 := fun _ => by kernel_rfl
  kUvarint := fun _ => by kernel_rfl
  kUnsafeString := fun _ => by kernel_rfl
  rOk := fun _ => by kernel_rfl
  rComplete := fun _ => by kernel_rfl
  rSpan := fun _ => by kernel_rfl
  rUvarint := fun _ => by kernel_rfl
  rReadUint64 := fun _ => by kernel_rfl
  rBool := fun _ => by kernel_rfl
  rInt8 := fun _ => by kernel_rfl
  rInt16 := fun _ => by kernel_rfl
  rUint16 := fun h => (Bool.false_ne_true h).elim
  rInt32 := fun _ => by kernel_rfl
  rInt64 := fun _ => by kernel_rfl
  rUuid := fun _ => by kernel_rfl
  rString := fun _ => by kernel_rfl
  rUnsafeString := fun _ => by kernel_rfl
  rCompactString := fun _ => by kernel_rfl
  rUnsafeCompactString := fun _ => by kernel_rfl
  rNullableString := fun _ => by kernel_rfl
  rUnsafeNullableString := fun _ => by kernel_rfl
  rCompactNullableString := fun _ => by kernel_rfl
  rUnsafeCompactNullableString := fun _ => by kernel_rfl
  rBytes := fun _ => by kernel_rfl
  rCompactBytes := fun _ => by kernel_rfl
  rNullableBytes := fun _ => by kernel_rfl
  rCompactNullableBytes := fun _ => by kernel_rfl
  rArrayLen := fun _ => by kernel_rfl
  rCompactArrayLen := fun _ => by kernel_rfl
  tSet := fun _ => by kernel_rfl
  tRead := fun _ => by kernel_rfl
theorem libI : LibI Tryd.prog F has where
  iBoolTree := fun _ => by kernel_rfl
  iTextTree := fun _ => by kernel_rfl
  iOctetsTree := fun _ => by kernel_rfl
  tEach := fun _ => by kernel_rfl
  iSorted := fun _ => by kernel_rfl
  sort := fun _ => sortC

end Go.Proofs.YtieneknlekaonaaDoor
