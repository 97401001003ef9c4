/-
  What the rows of this seat share.
-/
import Derived.Test.YtljndbdfoiagpaaGreatDoorRows
import Derived.Test.YtljndbdfoiagpaaGreatDoorL
import Derived.Test.YtljndbdfoiagpaaGreatDoorCards
import Derived.Test.YtljndbdfoiagpaaGreatDoorTie
import Derived.SevenTiedAt
namespace Go.Proofs.YtljndbdfoiagpaaGreatDoor
open Go.Msk Go.ChangeShapes Go.WideShapes Go.ChangeAt Go.RowKit
set_option maxRecDepth 100000

theorem own : ownKnob Tryz.prog.godebug = none := by kernel_rfl
theorem gNum : Tryz.prog.globalNamed "pub-mailsack/pub/kmsg/inner/kbin.ErrNotEnoughData" = some (F gErr) := by kernel_rfl
theorem uVersion : liftF Tryz.prog (F lVersion) = some (ir_lVersion F) := by kernel_rfl
theorem uSame : liftF Tryz.prog (F sSame) = some (ir_sSame F) := by kernel_rfl
theorem uZ1 : liftF Tryz.prog 5 = some (zz1Code 15) := by kernel_rfl
theorem uZ2 : liftF Tryz.prog 15 = some (zz2Code 30) := by kernel_rfl
theorem uZ3 : liftF Tryz.prog 30 = some zz3Code := by kernel_rfl
theorem treeTy : TreeTy Tryz.prog 26 2 22 5 4 23 24 57 55 where
  hT := ⟨_, Tryz.underlying26, by kernel_rfl⟩
  cT := by kernel_rfl
  hi := by kernel_rfl
  ci := by kernel_rfl
  hS := by kernel_rfl
  cS := by kernel_rfl
  h8 := by kernel_rfl
  c8 := by kernel_rfl
  hB := by kernel_rfl
  cB := by kernel_rfl
  hL := by kernel_rfl
  cL := by kernel_rfl
  hU := by kernel_rfl
  cU := by kernel_rfl
  hG := ⟨_, Tryz.underlying57, by kernel_rfl⟩
  cG := by kernel_rfl
  hk := by kernel_rfl
  ck := by kernel_rfl
theorem treeRec : Tryz.prog.readableRec 26 = true := by kernel_rfl
theorem treeRow : 26 < Tryz.prog.types.size := Nat.lt_of_succ_le (Nat.le_of_ble_eq_true (by kernel_rfl))

theorem bulkB {H : Type} : Bulk (H := H) Rows.uptoBulk Rows.uptoBulkAll where
  int _ _ := Nat.le_refl _
  bool _ := Nat.le_refl _
  none := Nat.le_refl _
  slice _ _ := rfl
  agg _ := rfl
  nil := rfl
  cons _ _ := rfl

def laidL : List (String × DataW Unit) := [("pub-mailsack/pub/kmsg/inner/kbin.ErrNotEnoughData", Rows.laid_pub_mailsack_pub_kmsg_inner_kbin_ErrNotEnoughData)]

theorem door_met (os : Os) (args : Array Value) : laidMetH Tryz.prog laidL ((World.doorLaid Tryz.prog 400 os).forCall (fun _ _ => 0) ⟨#[], args, []⟩).memory :=
  laidMetH_of_parts3 (fuel := 8) (laidMet_of_run' 8 (by kernel_rfl) (by kernel_rfl)) (by kernel_rfl) (by kernel_rfl)

end Go.Proofs.YtljndbdfoiagpaaGreatDoor
