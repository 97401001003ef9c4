/-
  What the rows of this seat share.
-/
import Derived.Test.YtfoljfjkifiboaaRows
import Derived.Test.YtfoljfjkifiboaaL
namespace Go.Proofs.Ytfoljfjkifiboaa
open Go.Msk Go.ChangeShapes Go.WideShapes Go.ChangeAt Go.RowKit
set_option maxRecDepth 100000

theorem own : ownKnob Try.prog.godebug = none := by kernel_rfl
theorem uGiven : liftF Try.prog (F lGiven) = some (ir_lGiven F) := by kernel_rfl
theorem uSame : liftF Try.prog (F sSame) = some (ir_sSame F) := by kernel_rfl
theorem uFit : liftF Try.prog (F sFit) = some (ir_sFit F) := by kernel_rfl
theorem uFitted : liftF Try.prog (F sFitted) = some (ir_sFitted F) := by kernel_rfl
theorem uUsual : liftF Try.prog (F susual_) = some (ir_susual_ F) := by kernel_rfl
theorem uKept : liftF Try.prog (F sKept) = some (ir_sKept F) := by kernel_rfl
theorem flib : FLib Try.prog F := ⟨slib, uFit, uFitted⟩
theorem klib : KLib Try.prog F := ⟨flib, uUsual, uSame, uKept⟩
theorem uZ1 : liftF Try.prog 4 = some (zz1Code 11) := by kernel_rfl
theorem uZ2 : liftF Try.prog 11 = some (zz2Code 21) := by kernel_rfl
theorem uZ3 : liftF Try.prog 21 = some zz3Code := by kernel_rfl
theorem treeTy : TreeTy Try.prog 26 2 22 5 4 23 24 60 58 where
  hT := ⟨_, Try.underlying26, by kernel_rfl⟩
  cT := by kernel_rfl
  hi := by kernel_rfl
  ci := by kernel_rfl
  hS := by kernel_rfl
  cS := by kernel_rfl
  h8 := by kernel_rfl
  c8 := by kernel_rfl
  hB := by kernel_rfl
  cB := by kernel_rfl
  hL := by kernel_rfl
  cL := by kernel_rfl
  hU := by kernel_rfl
  cU := by kernel_rfl
  hG := ⟨_, Try.underlying60, by kernel_rfl⟩
  cG := by kernel_rfl
  hk := by kernel_rfl
  ck := by kernel_rfl
theorem treeRec : Try.prog.readableRec 26 = true := by kernel_rfl
theorem treeRow : 26 < Try.prog.types.size := Nat.lt_of_succ_le (Nat.le_of_ble_eq_true (by kernel_rfl))

theorem bulkB {H : Type} : Bulk (H := H) Rows.uptoBulk Rows.uptoBulkAll where
  int _ _ := Nat.le_refl _
  bool _ := Nat.le_refl _
  none := Nat.le_refl _
  slice _ _ := rfl
  agg _ := rfl
  nil := rfl
  cons _ _ := rfl

end Go.Proofs.Ytfoljfjkifiboaa
