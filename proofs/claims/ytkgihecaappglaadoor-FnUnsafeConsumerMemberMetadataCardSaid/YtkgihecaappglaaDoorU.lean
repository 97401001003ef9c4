/-
  What the rows of this seat share.
-/
import Derived.Test.YtkgihecaappglaaDoorRows
import Derived.Test.YtkgihecaappglaaDoorL
import Derived.Test.YtkgihecaappglaaDoorCards
import Derived.Test.YtkgihecaappglaaDoorTie
import Derived.SevenTiedAt
namespace Go.Proofs.YtkgihecaappglaaDoor
open Go.Msk Go.ChangeShapes Go.WideShapes Go.ChangeAt Go.RowKit
set_option maxRecDepth 100000

theorem own : ownKnob Tryd.prog.godebug = none := by kernel_rfl
theorem gNum : Tryd.prog.globalNamed "pub-mailsack/pub/kmsg/inner/kbin.ErrNotEnoughData" = some (F gErr) := by kernel_rfl
theorem uKept : liftF Tryd.prog (F sKept) = some (ir_sKept F) := by kernel_rfl
theorem uFixed : liftF Tryd.prog (F sFixed) = some (ir_sFixed F) := by kernel_rfl
theorem uGot : liftF Tryd.prog (F lGot) = some (ir_lGot F) := by kernel_rfl
theorem uSameTree : liftF Tryd.prog (F sSameTree) = some (ir_sSameTree F) := by kernel_rfl
theorem uSame : liftF Tryd.prog (F sSame) = some (ir_sSame F) := by kernel_rfl

def laidL : List (String × DataW Unit) := [("pub-mailsack/pub/kmsg/inner/kbin.ErrNotEnoughData", Rows.laid_pub_mailsack_pub_kmsg_inner_kbin_ErrNotEnoughData)]

theorem door_met (os : Os) (args : Array Value) : laidMetH Tryd.prog laidL ((World.doorLaid Tryd.prog 400 os).forCall (fun _ _ => 0) ⟨#[], args, []⟩).memory :=
  laidMetH_of_parts3 (fuel := 8) (laidMet_of_run' 8 (by kernel_rfl) (by kernel_rfl)) (by kernel_rfl) (by kernel_rfl)

end Go.Proofs.YtkgihecaappglaaDoor
