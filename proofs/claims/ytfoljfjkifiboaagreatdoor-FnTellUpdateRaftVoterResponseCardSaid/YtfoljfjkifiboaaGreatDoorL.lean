/-
  The numbers of the generic functions in this program, and that these functions are as the framework says.
-/
import Derived.Test.YtfoljfjkifiboaaGreatDoorFu
import Derived.Test.YtfoljfjkifiboaaGreatDoorChecked
namespace Go.Proofs.YtfoljfjkifiboaaGreatDoor
open Go.Msk Go.Proofs
set_option maxRecDepth 100000

/-- The numbers of the generic functions. -/
def fTbl : List Nat := [1, 2, 0, 0, 59, 0, 58, 79, 0, 0, 97, 0, 60, 62, 65, 67, 64, 66, 77, 78, 75, 76, 85, 84, 0, 0, 81, 80, 69, 82, 91, 90, 0, 0, 0, 0, 0, 0, 0, 0, 0, 0, 0, 0, 0, 0, 0, 0, 0, 0, 0, 0, 0, 0, 0, 0, 89, 88, 117, 61, 141, 43, 72, 0, 0, 68, 0, 0, 0, 0, 0, 55, 86, 45, 9, 0, 14, 6, 18, 39, 0, 33, 51, 26, 48, 38, 49, 73, 74, 46, 28, 47, 31, 25, 11, 32, 0, 0, 52, 30, 29, 12, 0, 0, 0, 17, 27, 50, 13, 107, 108, 0, 0, 71, 0, 0, 0, 0, 0, 0, 117]
def F (c : Nat) : Nat := fTbl.getD c 0 - 1
def has (c : Nat) : Bool := Nat.blt 0 (fTbl.getD c 0)

theorem mixed : Tryz.prog.follows .mixedOrders = true := by kernel_rfl
def Tryz.sa6_ren : Go.Shelf.Ren := ⟨fun | 6 => 70 | 10 => 91 | 11 => 92 | 12 => 93 | 13 => 94 | 14 => 95 | 24 => 106 | 25 => 107 | 26 => 108 | 27 => 109 | 28 => 110 | 29 => 111 | 30 => 112 | 31 => 113 | 32 => 114 | 33 => 115 | 34 => 117 | 35 => 118 | 36 => 119 | 37 => 120 | 38 => 121 | 39 => 122 | n => n, fun | 20 => 20 | 26 => 118 | 35 => 139 | 0 => 0 | 37 => 141 | 3 => 3 | 41 => 121 | 44 => 146 | 49 => 65 | 51 => 96 | 4 => 4 | 54 => 155 | 53 => 154 | 58 => 159 | 5 => 5 | 9 => 9 | 60 => 162 | 64 => 165 | 66 => 167 | 67 => 168 | 17 => 17 | 32 => 136 | 33 => 137 | 82 => 183 | 12 => 12 | 75 => 176 | 76 => 177 | 77 => 178 | 78 => 179 | 79 => 180 | 80 => 181 | n => n, fun | n => n⟩
theorem Tryz.sa6 : Go.Proofs.LaysGg.n6 Tryz.prog Tryz.sa6_ren where
  mixed := by kernel_rfl
  f6 := Tryz.func70.trans (congrArg some (by kernel_rfl))
  f10 := Tryz.func91.trans (congrArg some (by kernel_rfl))
  f11 := Tryz.func92.trans (congrArg some (by kernel_rfl))
  f12 := Tryz.func93.trans (congrArg some (by kernel_rfl))
  f13 := Tryz.func94.trans (congrArg some (by kernel_rfl))
  f14 := Tryz.func95.trans (congrArg some (by kernel_rfl))
  f24 := Tryz.func106.trans (congrArg some (by kernel_rfl))
  f25 := Tryz.func107.trans (congrArg some (by kernel_rfl))
  f26 := Tryz.func108.trans (congrArg some (by kernel_rfl))
  f27 := Tryz.func109.trans (congrArg some (by kernel_rfl))
  f28 := Tryz.func110.trans (congrArg some (by kernel_rfl))
  f29 := Tryz.func111.trans (congrArg some (by kernel_rfl))
  f30 := Tryz.func112.trans (congrArg some (by kernel_rfl))
  f31 := Tryz.func113.trans (congrArg some (by kernel_rfl))
  f32 := Tryz.func114.trans (congrArg some (by kernel_rfl))
  f33 := Tryz.func115.trans (congrArg some (by kernel_rfl))
  f34 := Tryz.func117.trans (congrArg some (by kernel_rfl))
  f35 := Tryz.func118.trans (congrArg some (by kernel_rfl))
  f36 := Tryz.func119.trans (congrArg some (by kernel_rfl))
  f37 := Tryz.func120.trans (congrArg some (by kernel_rfl))
  f38 := Tryz.func121.trans (congrArg some (by kernel_rfl))
  f39 := Tryz.func122.trans (congrArg some (by kernel_rfl))
  t0 := Tryz.underlying0
  a0 := Tryz.isAgg0
  z0 := Tryz.sizeOf0
  v0 := Tryz.zeroValue0
  i0 := by kernel_rfl
  t3 := Tryz.underlying3
  a3 := Tryz.isAgg3
  z3 := Tryz.sizeOf3
  v3 := Tryz.zeroValue3
  i3 := by kernel_rfl
  t4 := Tryz.underlying4
  a4 := Tryz.isAgg4
  z4 := Tryz.sizeOf4
  v4 := Tryz.zeroValue4
  i4 := by kernel_rfl
  t5 := Tryz.underlying5
  a5 := Tryz.isAgg5
  z5 := Tryz.sizeOf5
  v5 := Tryz.zeroValue5
  i5 := by kernel_rfl
  t9 := Tryz.underlying9
  a9 := Tryz.isAgg9
  z9 := Tryz.sizeOf9
  v9 := Tryz.zeroValue9
  i9 := by kernel_rfl
  t12 := Tryz.underlying12
  a12 := Tryz.isAgg12
  z12 := Tryz.sizeOf12
  v12 := Tryz.zeroValue12
  i12 := by kernel_rfl
  t17 := Tryz.underlying17
  a17 := Tryz.isAgg17
  z17 := Tryz.sizeOf17
  v17 := Tryz.zeroValue17
  i17 := by kernel_rfl
  t20 := Tryz.underlying20
  a20 := Tryz.isAgg20
  z20 := Tryz.sizeOf20
  v20 := Tryz.zeroValue20
  i20 := by kernel_rfl
  t26 := Tryz.underlying118
  a26 := Tryz.isAgg118
  z26 := Tryz.sizeOf118
  v26 := Tryz.zeroValue118
  i26 := by kernel_rfl
  t32 := Tryz.underlying136
  a32 := Tryz.isAgg136
  z32 := Tryz.sizeOf136
  v32 := Tryz.zeroValue136
  i32 := by kernel_rfl
  t33 := Tryz.underlying137
  a33 := Tryz.isAgg137
  z33 := Tryz.sizeOf137
  v33 := Tryz.zeroValue137
  i33 := by kernel_rfl
  t35 := Tryz.underlying139
  a35 := Tryz.isAgg139
  z35 := Tryz.sizeOf139
  v35 := Tryz.zeroValue139
  i35 := by kernel_rfl
  t37 := Tryz.underlying141
  a37 := Tryz.isAgg141
  z37 := Tryz.sizeOf141
  v37 := Tryz.zeroValue141
  i37 := by kernel_rfl
  t41 := Tryz.underlying121
  a41 := Tryz.isAgg121
  z41 := Tryz.sizeOf121
  v41 := Tryz.zeroValue121
  i41 := by kernel_rfl
  t44 := Tryz.underlying146
  a44 := Tryz.isAgg146
  z44 := Tryz.sizeOf146
  v44 := Tryz.zeroValue146
  i44 := by kernel_rfl
  t49 := Tryz.underlying65
  a49 := Tryz.isAgg65
  z49 := Tryz.sizeOf65
  v49 := Tryz.zeroValue65
  i49 := by kernel_rfl
  t51 := Tryz.underlying96
  a51 := Tryz.isAgg96
  z51 := Tryz.sizeOf96
  v51 := Tryz.zeroValue96
  i51 := by kernel_rfl
  t53 := Tryz.underlying154
  a53 := Tryz.isAgg154
  z53 := Tryz.sizeOf154
  v53 := Tryz.zeroValue154
  i53 := by kernel_rfl
  t54 := Tryz.underlying155
  a54 := Tryz.isAgg155
  z54 := Tryz.sizeOf155
  v54 := Tryz.zeroValue155
  i54 := by kernel_rfl
  t58 := Tryz.underlying159
  a58 := Tryz.isAgg159
  z58 := Tryz.sizeOf159
  v58 := Tryz.zeroValue159
  i58 := by kernel_rfl
  t60 := Tryz.underlying162
  a60 := Tryz.isAgg162
  z60 := Tryz.sizeOf162
  v60 := Tryz.zeroValue162
  i60 := by kernel_rfl
  t64 := Tryz.underlying165
  a64 := Tryz.isAgg165
  z64 := Tryz.sizeOf165
  v64 := Tryz.zeroValue165
  i64 := by kernel_rfl
  t66 := Tryz.underlying167
  a66 := Tryz.isAgg167
  z66 := Tryz.sizeOf167
  v66 := Tryz.zeroValue167
  i66 := by kernel_rfl
  t67 := Tryz.underlying168
  a67 := Tryz.isAgg168
  z67 := Tryz.sizeOf168
  v67 := Tryz.zeroValue168
  i67 := by kernel_rfl
  t75 := Tryz.underlying176
  a75 := Tryz.isAgg176
  z75 := Tryz.sizeOf176
  v75 := Tryz.zeroValue176
  i75 := by kernel_rfl
  t76 := Tryz.underlying177
  a76 := Tryz.isAgg177
  z76 := Tryz.sizeOf177
  v76 := Tryz.zeroValue177
  i76 := by kernel_rfl
  t77 := Tryz.underlying178
  a77 := Tryz.isAgg178
  z77 := Tryz.sizeOf178
  v77 := Tryz.zeroValue178
  i77 := by kernel_rfl
  t78 := Tryz.underlying179
  a78 := Tryz.isAgg179
  z78 := Tryz.sizeOf179
  v78 := Tryz.zeroValue179
  i78 := by kernel_rfl
  t79 := Tryz.underlying180
  a79 := Tryz.isAgg180
  z79 := Tryz.sizeOf180
  v79 := Tryz.zeroValue180
  i79 := by kernel_rfl
  t80 := Tryz.underlying181
  a80 := Tryz.isAgg181
  z80 := Tryz.sizeOf181
  v80 := Tryz.zeroValue181
  i80 := by kernel_rfl
  t82 := Tryz.underlying183
  a82 := Tryz.isAgg183
  z82 := Tryz.sizeOf183
  v82 := Tryz.zeroValue183
  i82 := by kernel_rfl

open Go.Shelf Go.RowKit Go.Lib Go.Sort in
theorem sortC : kPO Tryz.prog (F uC) (F wW) (F kAH) :=
  kQG Tryz.sa6 mixed (by kernel_rfl) (by kernel_rfl) (e := 65) (i := (Tryz.prog.info? 116).get (by kernel_rfl)) (ie := (Tryz.prog.info? 65).get (by kernel_rfl)) (by kernel_rfl) (by kernel_rfl) (by kernel_rfl) (by kernel_rfl) 10 (fun _ => by kernel_rfl) (by kernel_rfl) (fun _ => by kernel_rfl) (by kernel_rfl) (by kernel_rfl)
    (enters_of Tryz.func71 (by kernel_rfl) rfl) 97 98 102 (by kernel_rfl) (by kernel_rfl) (by kernel_rfl) true
    (fun args W => run_callFunc_extern Tryz.func102 (by kernel_rfl) (by kernel_rfl) (by kernel_rfl) (e := Extern.ReflectliteSwapper.swap true) (by kernel_rfl) args W)

theorem lib : Lib Tryz.prog F has where
  mixed := mixed
  zC := fun _ => by kernel_rfl
  jD := fun _ => by kernel_rfl
  xG := fun _ => by kernel_rfl
  qH := fun _ => by kernel_rfl
  qC := fun _ => by kernel_rfl
  rOk := fun _ => by kernel_rfl
  jX := fun _ => by kernel_rfl
  zF := fun _ => by kernel_rfl
  qB := fun _ => by kernel_rfl
  jT := fun _ => by kernel_rfl
  kHN := fun h => (Bool.false_ne_true h).elim
  kHO := fun h => (Bool.false_ne_true h).elim
  j5 := fun _ => by kernel_rfl
  kAD := fun h => (Bool.false_ne_true h).elim
  y8 := fun _ => by kernel_rfl
  kDF := fun _ => by kernel_rfl
  kHP := fun h => (Bool.false_ne_true h).elim
  kAE := fun _ => by kernel_rfl
  jP := fun _ => by kernel_rfl
  jE := fun _ => by kernel_rfl
  qU := fun _ => by kernel_rfl
  zY := fun _ => by kernel_rfl
  qO := fun _ => by kernel_rfl
  qM := fun _ => by kernel_rfl
  qD := fun _ => by kernel_rfl
  kDG := fun _ => by kernel_rfl
  jQ := fun _ => by kernel_rfl
  jF := fun h => (Bool.false_ne_true h).elim
  qP := fun h => (Bool.false_ne_true h).elim
  xE := fun _ => by kernel_rfl
  zK := fun _ => by kernel_rfl
  tSet := fun _ => by kernel_rfl
  kEE := fun _ => by kernel_rfl
theorem libI : LibI Tryz.prog F has where
  xH := fun h => (Bool.false_ne_true h).elim
  xI := fun _ => by kernel_rfl
  j6 := fun _ => by kernel_rfl
  kEC := fun _ => by kernel_rfl
  uP := fun _ => by kernel_rfl
  sort := fun _ => sortC
theorem slib : SLib Tryz.prog F where
  mixed := mixed
  has := by kernel_rfl
  null := by kernel_rfl
  whole := by kernel_rfl
  things := by kernel_rfl
  at_ := by kernel_rfl
  uvarint := by kernel_rfl
  fixed := by kernel_rfl
  width := by kernel_rfl
  counted := by kernel_rfl
  value := by kernel_rfl
  field := by kernel_rfl
  known := by kernel_rfl
  unknown := by kernel_rfl
  part := by kernel_rfl
  write := by kernel_rfl

end Go.Proofs.YtfoljfjkifiboaaGreatDoor
