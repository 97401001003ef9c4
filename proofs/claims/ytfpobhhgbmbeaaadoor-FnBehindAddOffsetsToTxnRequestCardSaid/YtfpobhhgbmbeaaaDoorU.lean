/-
  What the rows of this seat share.
-/
import Derived.Test.YtfpobhhgbmbeaaaDoorRows
import Derived.Test.YtfpobhhgbmbeaaaDoorL
import Derived.Test.YtfpobhhgbmbeaaaDoorCards
import Derived.Test.YtfpobhhgbmbeaaaDoorTie
import Derived.SevenTiedAt
namespace Go.Proofs.YtfpobhhgbmbeaaaDoor
open Go.Msk Go.ChangeShapes Go.WideShapes Go.ChangeAt Go.RowKit
set_option maxRecDepth 100000

theorem own : ownKnob Tryd.prog.godebug = none := by kernel_rfl
theorem gNum : Tryd.prog.globalNamed "pub-mailsack/pub/kmsg/inner/kbin.ErrNotEnoughData" = some (F gErr) := by kernel_rfl
theorem uVersion : liftF Tryd.prog (F lVersion) = some (ir_lVersion F) := by kernel_rfl
theorem uSame : liftF Tryd.prog (F sSame) = some (ir_sSame F) := by kernel_rfl
theorem uZ1 : liftF Tryd.prog 10 = some (zz1Code 35) := by kernel_rfl
theorem uZ2 : liftF Tryd.prog 35 = some (zz2Code 72) := by kernel_rfl
theorem uZ3 : liftF Tryd.prog 72 = some zz3Code := by kernel_rfl
theorem treeTy : TreeTy Tryd.prog 26 2 22 5 4 23 24 66 64 where
  hT := ⟨_, Tryd.underlying26, by kernel_rfl⟩
  cT := by kernel_rfl
  hi := by kernel_rfl
  ci := by kernel_rfl
  hS := by kernel_rfl
  cS := by kernel_rfl
  h8 := by kernel_rfl
  c8 := by kernel_rfl
  hB := by kernel_rfl
  cB := by kernel_rfl
  hL := by kernel_rfl
  cL := by kernel_rfl
  hU := by kernel_rfl
  cU := by kernel_rfl
  hG := ⟨_, Tryd.underlying66, by kernel_rfl⟩
  cG := by kernel_rfl
  hk := by kernel_rfl
  ck := by kernel_rfl
theorem treeRec : Tryd.prog.readableRec 26 = true := by kernel_rfl
theorem treeRow : 26 < Tryd.prog.types.size := Nat.lt_of_succ_le (Nat.le_of_ble_eq_true (by kernel_rfl))

def laidL : List (String × DataW Unit) := [("pub-mailsack/pub/kmsg/inner/kbin.ErrNotEnoughData", Rows.laid_pub_mailsack_pub_kmsg_inner_kbin_ErrNotEnoughData)]

theorem door_met (os : Os) (args : Array Value) : laidMetH Tryd.prog laidL ((World.doorLaid Tryd.prog 400 os).forCall (fun _ _ => 0) ⟨#[], args, []⟩).memory :=
  laidMetH_of_parts3 (fuel := 8) (laidMet_of_run' 8 (by kernel_rfl) (by kernel_rfl)) (by kernel_rfl) (by kernel_rfl)

end Go.Proofs.YtfpobhhgbmbeaaaDoor
