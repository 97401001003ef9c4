/-
  What the rows of this seat share.
-/
import Derived.Test.YtfoljfjkifiboaaGreatDoorRows
import Derived.Test.YtfoljfjkifiboaaGreatDoorL
import Derived.Test.YtfoljfjkifiboaaGreatDoorCards
import Derived.Test.YtfoljfjkifiboaaGreatDoorTie
import Derived.SevenTiedAt
namespace Go.Proofs.YtfoljfjkifiboaaGreatDoor
open Go.Msk Go.ChangeShapes Go.WideShapes Go.ChangeAt Go.RowKit
set_option maxRecDepth 100000

theorem own : ownKnob Tryz.prog.godebug = none := by kernel_rfl
theorem gNum : Tryz.prog.globalNamed "pub-mailsack/pub/kmsg/inner/kbin.ErrNotEnoughData" = some (F gErr) := by kernel_rfl
theorem uVersion : kH Tryz.prog (F kB9) = some (ir_lVersion F) := by kernel_rfl
theorem uGot : kH Tryz.prog (F lGot) = some (ir_lGot F) := by kernel_rfl
theorem uSame : kH Tryz.prog (F vW) = some (ir_sSame F) := by kernel_rfl
theorem uNumber : kH Tryz.prog (F kBO) = some (kB6) := by kernel_rfl
theorem uUsual : kH Tryz.prog (F kFE) = some (ir_sUsual F) := by kernel_rfl
theorem uTold1 : kH Tryz.prog (F kFF) = some (ir_stold_ F) := by kernel_rfl
theorem uTold : kH Tryz.prog (F kHV) = some (ir_sTold F) := by kernel_rfl
theorem uFlexible : kH Tryz.prog (F kCA) = some (ir_sFlexible F) := by kernel_rfl
theorem tlib : TLib Tryz.prog F where
  sl := slib
  same := uSame
  number := uNumber
  usual := uUsual
  told1 := uTold1
  told := uTold
  flexible := uFlexible
theorem uKept : kH Tryz.prog (F sKept) = some (ir_sKept F) := by kernel_rfl
theorem uFixed : kH Tryz.prog (F yU) = some (ir_sFixed F) := by kernel_rfl
theorem uUsualK : kH Tryz.prog (F uR) = some (ir_susual_ F) := by kernel_rfl
theorem uZ1 : kH Tryz.prog 5 = some (kGZ 17) := by kernel_rfl
theorem uZ2 : kH Tryz.prog 17 = some (kES 38) := by kernel_rfl
theorem uZ3 : kH Tryz.prog 38 = some kC4 := by kernel_rfl
theorem treeTy : kK4 Tryz.prog 26 2 22 5 4 23 24 67 65 where
  hT := ⟨_, Tryz.underlying26, by kernel_rfl⟩
  cT := by kernel_rfl
  hi := by kernel_rfl
  ci := by kernel_rfl
  hS := by kernel_rfl
  cS := by kernel_rfl
  h8 := by kernel_rfl
  c8 := by kernel_rfl
  hB := by kernel_rfl
  cB := by kernel_rfl
  hL := by kernel_rfl
  cL := by kernel_rfl
  hU := by kernel_rfl
  cU := by kernel_rfl
  hG := ⟨_, Tryz.underlying67, by kernel_rfl⟩
  cG := by kernel_rfl
  hk := by kernel_rfl
  ck := by kernel_rfl
theorem treeRec : Tryz.prog.readableRec 26 = true := by kernel_rfl
theorem treeRow : 26 < Tryz.prog.types.size := Nat.lt_of_succ_le (Nat.le_of_ble_eq_true (by kernel_rfl))

theorem bulkB {H : Type} : Bulk (H := H) Rows.uptoBulk Rows.uptoBulkAll where
  int _ _ := Nat.le_refl _
  bool _ := Nat.le_refl _
  none := Nat.le_refl _
  slice _ _ := rfl
  agg _ := rfl
  nil := rfl
  cons _ _ := rfl

def laidL : List (String × DataW Unit) := [("pub-mailsack/pub/kmsg/inner/kbin.ErrNotEnoughData", Rows.laid_pub_mailsack_pub_kmsg_inner_kbin_ErrNotEnoughData)]

theorem door_met (os : Os) (args : Array Value) : laidMetH Tryz.prog laidL ((World.doorLaid Tryz.prog 400 os).forCall (fun _ _ => 0) ⟨#[], args, []⟩).memory :=
  laidMetH_of_parts3 (fuel := 8) (laidMet_of_run' 8 (by kernel_rfl) (by kernel_rfl)) (by kernel_rfl) (by kernel_rfl)

end Go.Proofs.YtfoljfjkifiboaaGreatDoor
