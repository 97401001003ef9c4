/-
  The numbers of the generic functions in this program, and that these functions are as the framework says.
-/
import Derived.Test.YtkgihecaappglaaDoorFp
import Derived.Test.YtkgihecaappglaaDoorChecked
namespace Go.Proofs.YtkgihecaappglaaDoor
open Go.Msk Go.Proofs
set_option maxRecDepth 100000

/-- The numbers of the generic functions. -/
def fTbl : List Nat := [1, 2, 0, 0, 25, 0, 33, 0, 0, 0, 0, 0, 0, 46, 29, 30, 0, 0, 34, 35, 0, 0, 0, 0, 31, 0, 26, 0, 28, 27, 45, 0, 0, 0, 0, 0, 0, 0, 0, 0, 0, 0, 0, 0, 0, 0, 0, 0, 0, 0, 0, 0, 0, 0, 0, 0, 44, 47, 0, 0, 0, 0, 0, 0, 0, 0, 0, 0, 0, 0, 0, 23, 21, 0, 0, 0, 10, 0, 0, 0, 0, 43, 49, 38, 41, 14, 52, 50, 51, 37, 40, 39, 42, 24, 15, 18, 0, 0, 0, 0, 0, 0, 9, 0, 0, 6, 36, 48, 68, 0, 0, 0, 0, 0, 0, 0, 0, 0, 0, 0, 0]
def F (c : Nat) : Nat := fTbl.getD c 0 - 1
def has (c : Nat) : Bool := Nat.blt 0 (fTbl.getD c 0)

theorem mixed : Tryd.prog.follows .mixedOrders = true := by kernel_rfl

theorem lib : Lib Tryd.prog F has where
  mixed := mixed
  beUint16 := fun _ => by kernel_rfl
  beUint32 := fun _ => by kernel_rfl
  beUint64 := fun h => (Bool.false_ne_true h).elim
  kUvarint := fun h => (Bool.false_ne_true h).elim
  kUnsafeString := fun _ => by kernel_rfl
  rOk := fun _ => by kernel_rfl
  rComplete := fun _ => by kernel_rfl
  rSpan := fun _ => by kernel_rfl
  rUvarint := fun h => (Bool.false_ne_true h).elim
  rReadUint64 := fun h => (Bool.false_ne_true h).elim
  rBool := fun h => (Bool.false_ne_true h).elim
  rInt8 := fun h => (Bool.false_ne_true h).elim
  rInt16 := fun _ => by kernel_rfl
  rUint16 := fun h => (Bool.false_ne_true h).elim
  rInt32 := fun _ => by kernel_rfl
  rInt64 := fun h => (Bool.false_ne_true h).elim
  rUuid := fun h => (Bool.false_ne_true h).elim
  rString := fun _ => by kernel_rfl
  rUnsafeString := fun _ => by kernel_rfl
  rCompactString := fun h => (Bool.false_ne_true h).elim
  rUnsafeCompactString := fun h => (Bool.false_ne_true h).elim
  rNullableString := fun _ => by kernel_rfl
  rUnsafeNullableString := fun _ => by kernel_rfl
  rCompactNullableString := fun h => (Bool.false_ne_true h).elim
  rUnsafeCompactNullableString := fun h => (Bool.false_ne_true h).elim
  rBytes := fun h => (Bool.false_ne_true h).elim
  rCompactBytes := fun h => (Bool.false_ne_true h).elim
  rNullableBytes := fun _ => by kernel_rfl
  rCompactNullableBytes := fun h => (Bool.false_ne_true h).elim
  rArrayLen := fun _ => by kernel_rfl
  rCompactArrayLen := fun h => (Bool.false_ne_true h).elim
  tSet := fun h => (Bool.false_ne_true h).elim
  tRead := fun h => (Bool.false_ne_true h).elim
theorem libI : LibI Tryd.prog F has where
  iBoolTree := fun h => (Bool.false_ne_true h).elim
  iTextTree := fun _ => by kernel_rfl
  iOctetsTree := fun _ => by kernel_rfl
  tEach := fun h => (Bool.false_ne_true h).elim
  iSorted := fun h => (Bool.false_ne_true h).elim
  sort := fun h => (Bool.false_ne_true h).elim
theorem slib : SLib Tryd.prog F where
  mixed := mixed
  has := by kernel_rfl
  null := by kernel_rfl
  whole := by kernel_rfl
  things := by kernel_rfl
  at_ := by kernel_rfl
  uvarint := by kernel_rfl
  fixed := by kernel_rfl
  width := by kernel_rfl
  counted := by kernel_rfl
  value := by kernel_rfl
  field := by kernel_rfl
  known := by kernel_rfl
  unknown := by kernel_rfl
  part := by kernel_rfl
  write := by kernel_rfl

end Go.Proofs.YtkgihecaappglaaDoor
