/-
  The numbers of the generic functions in this program, and that these functions are as the framework says.
-/
import Derived.Test.YtebpkfdpbcplgaaDoorRRFn
import Derived.Test.YtebpkfdpbcplgaaDoorRRChecked
namespace Go.Proofs.YtebpkfdpbcplgaaDoorRR
open Go.Msk Go.Proofs
set_option maxRecDepth 100000

/-- The numbers of the generic functions. -/
def fTbl : List Nat := [1, 2, 0, 0, 67, 0, 75, 0, 0, 0, 0, 0, 102, 95, 71, 72, 0, 0, 76, 77, 86, 87, 89, 88, 73, 0, 68, 0, 70, 69, 94, 109, 0, 0, 0, 0, 0, 0, 0, 0, 0, 0, 0, 0, 0, 0, 0, 0, 0, 0, 0, 0, 0, 0, 0, 0, 93, 96, 0, 103, 152, 58, 92, 0, 0, 90, 0, 0, 0, 0, 0, 54, 52, 60, 16, 0, 13, 0, 0, 0, 0, 85, 98, 80, 83, 27, 101, 99, 100, 79, 82, 81, 84, 55, 28, 31, 0, 0, 0, 0, 0, 0, 12, 0, 0, 9, 78, 97, 150, 119, 120, 0, 0, 91, 0, 0, 0, 0, 0, 0, 119]
def F (c : Nat) : Nat := fTbl.getD c 0 - 1
def has (c : Nat) : Bool := Nat.blt 0 (fTbl.getD c 0)

theorem mixed : Tryd.prog.follows .mixedOrders = true := by kernel_rfl
def Tryd.sa6_ren : Go.Shelf.Ren := ⟨fun | 6 => 90 | 10 => 103 | 11 => 104 | 12 => 105 | 13 => 106 | 14 => 107 | 24 => 118 | 25 => 119 | 26 => 120 | 27 => 121 | 28 => 122 | 29 => 123 | 30 => 124 | 31 => 125 | 32 => 126 | 33 => 127 | 34 => 128 | 35 => 129 | 36 => 130 | 37 => 131 | 38 => 132 | 39 => 133 | n => n, fun | 20 => 20 | 26 => 120 | 35 => 138 | 0 => 0 | 37 => 140 | 3 => 3 | 41 => 133 | 44 => 145 | 49 => 62 | 51 => 112 | 4 => 4 | 54 => 155 | 53 => 154 | 58 => 159 | 5 => 5 | 9 => 9 | 60 => 161 | 64 => 165 | 66 => 167 | 67 => 168 | 17 => 17 | 32 => 135 | 33 => 136 | 82 => 183 | 12 => 12 | 75 => 176 | 76 => 177 | 77 => 178 | 78 => 179 | 79 => 180 | 80 => 181 | n => n, fun | n => n⟩
theorem Tryd.sa6 : Go.Proofs.LaysGg.n6 Tryd.prog Tryd.sa6_ren where
  mixed := by kernel_rfl
  f6 := Tryd.func90.trans (congrArg some (by kernel_rfl))
  f10 := Tryd.func103.trans (congrArg some (by kernel_rfl))
  f11 := Tryd.func104.trans (congrArg some (by kernel_rfl))
  f12 := Tryd.func105.trans (congrArg some (by kernel_rfl))
  f13 := Tryd.func106.trans (congrArg some (by kernel_rfl))
  f14 := Tryd.func107.trans (congrArg some (by kernel_rfl))
  f24 := Tryd.func118.trans (congrArg some (by kernel_rfl))
  f25 := Tryd.func119.trans (congrArg some (by kernel_rfl))
  f26 := Tryd.func120.trans (congrArg some (by kernel_rfl))
  f27 := Tryd.func121.trans (congrArg some (by kernel_rfl))
  f28 := Tryd.func122.trans (congrArg some (by kernel_rfl))
  f29 := Tryd.func123.trans (congrArg some (by kernel_rfl))
  f30 := Tryd.func124.trans (congrArg some (by kernel_rfl))
  f31 := Tryd.func125.trans (congrArg some (by kernel_rfl))
  f32 := Tryd.func126.trans (congrArg some (by kernel_rfl))
  f33 := Tryd.func127.trans (congrArg some (by kernel_rfl))
  f34 := Tryd.func128.trans (congrArg some (by kernel_rfl))
  f35 := Tryd.func129.trans (congrArg some (by kernel_rfl))
  f36 := Tryd.func130.trans (congrArg some (by kernel_rfl))
  f37 := Tryd.func131.trans (congrArg some (by kernel_rfl))
  f38 := Tryd.func132.trans (congrArg some (by kernel_rfl))
  f39 := Tryd.func133.trans (congrArg some (by kernel_rfl))
  t0 := Tryd.underlying0
  a0 := Tryd.isAgg0
  z0 := Tryd.sizeOf0
  v0 := Tryd.zeroValue0
  i0 := by kernel_rfl
  t3 := Tryd.underlying3
  a3 := Tryd.isAgg3
  z3 := Tryd.sizeOf3
  v3 := Tryd.zeroValue3
  i3 := by kernel_rfl
  t4 := Tryd.underlying4
  a4 := Tryd.isAgg4
  z4 := Tryd.sizeOf4
  v4 := Tryd.zeroValue4
  i4 := by kernel_rfl
  t5 := Tryd.underlying5
  a5 := Tryd.isAgg5
  z5 := Tryd.sizeOf5
  v5 := Tryd.zeroValue5
  i5 := by kernel_rfl
  t9 := Tryd.underlying9
  a9 := Tryd.isAgg9
  z9 := Tryd.sizeOf9
  v9 := Tryd.zeroValue9
  i9 := by kernel_rfl
  t12 := Tryd.underlying12
  a12 := Tryd.isAgg12
  z12 := Tryd.sizeOf12
  v12 := Tryd.zeroValue12
  i12 := by kernel_rfl
  t17 := Tryd.underlying17
  a17 := Tryd.isAgg17
  z17 := Tryd.sizeOf17
  v17 := Tryd.zeroValue17
  i17 := by kernel_rfl
  t20 := Tryd.underlying20
  a20 := Tryd.isAgg20
  z20 := Tryd.sizeOf20
  v20 := Tryd.zeroValue20
  i20 := by kernel_rfl
  t26 := Tryd.underlying120
  a26 := Tryd.isAgg120
  z26 := Tryd.sizeOf120
  v26 := Tryd.zeroValue120
  i26 := by kernel_rfl
  t32 := Tryd.underlying135
  a32 := Tryd.isAgg135
  z32 := Tryd.sizeOf135
  v32 := Tryd.zeroValue135
  i32 := by kernel_rfl
  t33 := Tryd.underlying136
  a33 := Tryd.isAgg136
  z33 := Tryd.sizeOf136
  v33 := Tryd.zeroValue136
  i33 := by kernel_rfl
  t35 := Tryd.underlying138
  a35 := Tryd.isAgg138
  z35 := Tryd.sizeOf138
  v35 := Tryd.zeroValue138
  i35 := by kernel_rfl
  t37 := Tryd.underlying140
  a37 := Tryd.isAgg140
  z37 := Tryd.sizeOf140
  v37 := Tryd.zeroValue140
  i37 := by kernel_rfl
  t41 := Tryd.underlying133
  a41 := Tryd.isAgg133
  z41 := Tryd.sizeOf133
  v41 := Tryd.zeroValue133
  i41 := by kernel_rfl
  t44 := Tryd.underlying145
  a44 := Tryd.isAgg145
  z44 := Tryd.sizeOf145
  v44 := Tryd.zeroValue145
  i44 := by kernel_rfl
  t49 := Tryd.underlying62
  a49 := Tryd.isAgg62
  z49 := Tryd.sizeOf62
  v49 := Tryd.zeroValue62
  i49 := by kernel_rfl
  t51 := Tryd.underlying112
  a51 := Tryd.isAgg112
  z51 := Tryd.sizeOf112
  v51 := Tryd.zeroValue112
  i51 := by kernel_rfl
  t53 := Tryd.underlying154
  a53 := Tryd.isAgg154
  z53 := Tryd.sizeOf154
  v53 := Tryd.zeroValue154
  i53 := by kernel_rfl
  t54 := Tryd.underlying155
  a54 := Tryd.isAgg155
  z54 := Tryd.sizeOf155
  v54 := Tryd.zeroValue155
  i54 := by kernel_rfl
  t58 := Tryd.underlying159
  a58 := Tryd.isAgg159
  z58 := Tryd.sizeOf159
  v58 := Tryd.zeroValue159
  i58 := by kernel_rfl
  t60 := Tryd.underlying161
  a60 := Tryd.isAgg161
  z60 := Tryd.sizeOf161
  v60 := Tryd.zeroValue161
  i60 := by kernel_rfl
  t64 := Tryd.underlying165
  a64 := Tryd.isAgg165
  z64 := Tryd.sizeOf165
  v64 := Tryd.zeroValue165
  i64 := by kernel_rfl
  t66 := Tryd.underlying167
  a66 := Tryd.isAgg167
  z66 := Tryd.sizeOf167
  v66 := Tryd.zeroValue167
  i66 := by kernel_rfl
  t67 := Tryd.underlying168
  a67 := Tryd.isAgg168
  z67 := Tryd.sizeOf168
  v67 := Tryd.zeroValue168
  i67 := by kernel_rfl
  t75 := Tryd.underlying176
  a75 := Tryd.isAgg176
  z75 := Tryd.sizeOf176
  v75 := Tryd.zeroValue176
  i75 := by kernel_rfl
  t76 := Tryd.underlying177
  a76 := Tryd.isAgg177
  z76 := Tryd.sizeOf177
  v76 := Tryd.zeroValue177
  i76 := by kernel_rfl
  t77 := Tryd.underlying178
  a77 := Tryd.isAgg178
  z77 := Tryd.sizeOf178
  v77 := Tryd.zeroValue178
  i77 := by kernel_rfl
  t78 := Tryd.underlying179
  a78 := Tryd.isAgg179
  z78 := Tryd.sizeOf179
  v78 := Tryd.zeroValue179
  i78 := by kernel_rfl
  t79 := Tryd.underlying180
  a79 := Tryd.isAgg180
  z79 := Tryd.sizeOf180
  v79 := Tryd.zeroValue180
  i79 := by kernel_rfl
  t80 := Tryd.underlying181
  a80 := Tryd.isAgg181
  z80 := Tryd.sizeOf181
  v80 := Tryd.zeroValue181
  i80 := by kernel_rfl
  t82 := Tryd.underlying183
  a82 := Tryd.isAgg183
  z82 := Tryd.sizeOf183
  v82 := Tryd.zeroValue183
  i82 := by kernel_rfl

open Go.Shelf Go.RowKit Go.Lib Go.Sort in
theorem sortC : SortC Tryd.prog (F sortSlice) (F tEach1) (F tyU32s) :=
  sortC_of Tryd.sa6 mixed (by kernel_rfl) (by kernel_rfl) (e := 62) (i := (Tryd.prog.info? 118).get (by kernel_rfl)) (ie := (Tryd.prog.info? 62).get (by kernel_rfl)) (by kernel_rfl) (by kernel_rfl) (by kernel_rfl) (by kernel_rfl) 10 (fun _ => by kernel_rfl) (by kernel_rfl) (fun _ => by kernel_rfl) (by kernel_rfl) (by kernel_rfl)
    (enters_of Tryd.func91 (by kernel_rfl) rfl) 109 110 114 (by kernel_rfl) (by kernel_rfl) (by kernel_rfl) true
    (fun args W => run_callFunc_extern Tryd.func114 (by kernel_rfl) (by kernel_rfl) (by kernel_rfl) (e := Extern.ReflectliteSwapper.swap true) (by kernel_rfl) args W)

theorem lib : Lib Tryd.prog F has where
  mixed := mixed
  beUint16 := fun _ => by kernel_rfl
  beUint32 := fun _ => by kernel_rfl
  beUint64 := fun h => (Bool.false_ne_true h).elim
  kUvarint := fun _ => by kernel_rfl
  kUnsafeString := fun _ => by kernel_rfl
  rOk := fun _ => by kernel_rfl
  rComplete := fun _ => by kernel_rfl
  rSpan := fun _ => by kernel_rfl
  rUvarint := fun _ => by kernel_rfl
  rReadUint64 := fun h => (Bool.false_ne_true h).elim
  rBool := fun h => (Bool.false_ne_true h).elim
  rInt8 := fun h => (Bool.false_ne_true h).elim
  rInt16 := fun _ => by kernel_rfl
  rUint16 := fun h => (Bool.false_ne_true h).elim
  rInt32 := fun _ => by kernel_rfl
  rInt64 := fun h => (Bool.false_ne_true h).elim
  rUuid := fun h => (Bool.false_ne_true h).elim
  rString := fun _ => by kernel_rfl
  rUnsafeString := fun _ => by kernel_rfl
  rCompactString := fun h => (Bool.false_ne_true h).elim
  rUnsafeCompactString := fun h => (Bool.false_ne_true h).elim
  rNullableString := fun _ => by kernel_rfl
  rUnsafeNullableString := fun _ => by kernel_rfl
  rCompactNullableString := fun _ => by kernel_rfl
  rUnsafeCompactNullableString := fun _ => by kernel_rfl
  rBytes := fun _ => by kernel_rfl
  rCompactBytes := fun _ => by kernel_rfl
  rNullableBytes := fun _ => by kernel_rfl
  rCompactNullableBytes := fun h => (Bool.false_ne_true h).elim
  rArrayLen := fun _ => by kernel_rfl
  rCompactArrayLen := fun h => (Bool.false_ne_true h).elim
  tSet := fun _ => by kernel_rfl
  tRead := fun _ => by kernel_rfl
theorem libI : LibI Tryd.prog F has where
  iBoolTree := fun h => (Bool.false_ne_true h).elim
  iTextTree := fun _ => by kernel_rfl
  iOctetsTree := fun _ => by kernel_rfl
  tEach := fun _ => by kernel_rfl
  iSorted := fun _ => by kernel_rfl
  sort := fun _ => sortC

end Go.Proofs.YtebpkfdpbcplgaaDoorRR
