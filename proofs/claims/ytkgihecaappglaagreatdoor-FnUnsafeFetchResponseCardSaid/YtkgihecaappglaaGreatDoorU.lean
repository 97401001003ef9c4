/-
  What the rows of this seat share.
-/
import Derived.Test.YtkgihecaappglaaGreatDoorRows
import Derived.Test.YtkgihecaappglaaGreatDoorL
import Derived.Test.YtkgihecaappglaaGreatDoorCards
import Derived.Test.YtkgihecaappglaaGreatDoorTie
import Derived.SevenTiedAt
namespace Go.Proofs.YtkgihecaappglaaGreatDoor
open Go.Msk Go.ChangeShapes Go.WideShapes Go.ChangeAt Go.RowKit
set_option maxRecDepth 100000

theorem own : ownKnob Tryz.prog.godebug = none := by kernel_rfl
theorem gNum : Tryz.prog.globalNamed "pub-mailsack/pub/kmsg/inner/kbin.ErrNotEnoughData" = some (F gErr) := by kernel_rfl
theorem uVersion : liftF Tryz.prog (F lVersion) = some (ir_lVersion F) := by kernel_rfl
theorem uGot : liftF Tryz.prog (F lGot) = some (ir_lGot F) := by kernel_rfl
theorem uSameTree : liftF Tryz.prog (F sSameTree) = some (ir_sSameTree F) := by kernel_rfl
theorem uSame : liftF Tryz.prog (F sSame) = some (ir_sSame F) := by kernel_rfl

def laidL : List (String × DataW Unit) := [("pub-mailsack/pub/kmsg/inner/kbin.ErrNotEnoughData", Rows.laid_pub_mailsack_pub_kmsg_inner_kbin_ErrNotEnoughData)]

theorem door_met (os : Os) (args : Array Value) : laidMetH Tryz.prog laidL ((World.doorLaid Tryz.prog 400 os).forCall (fun _ _ => 0) ⟨#[], args, []⟩).memory :=
  laidMetH_of_parts3 (fuel := 8) (laidMet_of_run' 8 (by kernel_rfl) (by kernel_rfl)) (by kernel_rfl) (by kernel_rfl)

end Go.Proofs.YtkgihecaappglaaGreatDoor
