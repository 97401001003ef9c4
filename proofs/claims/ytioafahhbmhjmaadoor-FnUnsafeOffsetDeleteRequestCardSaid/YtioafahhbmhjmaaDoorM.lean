/-
  This seat's messages: their schemes, and that the program's functions are as the schemes say.
-/
import Derived.Test.YtioafahhbmhjmaaDoorFm
import Derived.Test.YtioafahhbmhjmaaDoorChecked
namespace Go.Proofs.YtioafahhbmhjmaaDoor
open Go.Msk Go.Proofs
set_option maxRecDepth 100000

/-- The numbers of the generic functions. -/
def fTbl : List Nat := [1, 2, 0, 0, 69, 0, 79, 0, 0, 0, 0, 0, 0, 87, 73, 74, 0, 0, 83, 84, 0, 0, 0, 0, 81, 0, 70, 0, 72, 71, 86, 0, 0, 0, 53, 75, 76, 88, 0, 0, 0, 0, 0, 0, 55, 0, 0, 0, 0, 0, 0, 0, 54, 0, 0, 0, 85, 89, 0, 0, 0, 0, 0, 0, 0, 0, 0, 0, 0, 0, 0, 63, 61, 0, 10, 0, 18, 7, 23, 42, 0, 51, 65, 46, 49, 39, 68, 66, 67, 45, 48, 47, 50, 26, 11, 13, 0, 0, 0, 0, 0, 0, 17, 0, 0, 20, 44, 64, 105, 0, 0, 0, 0, 0, 0, 0, 0, 0, 0, 0, 0]
def F (c : Nat) : Nat := fTbl.getD c 0 - 1
def has (c : Nat) : Bool := Nat.blt 0 (fTbl.getD c 0)

theorem mixed : Tryd.prog.follows .mixedOrders = true := by kernel_rfl
theorem lib : Lib Tryd.prog F has where
  mixed := mixed
  beUint16 := fun _ => by kernel_rfl
  beUint32 := fun _ => by kernel_rfl
  beUint64 := fun h => (Bool.false_ne_true h).elim
  kUvarint := fun h => (Bool.false_ne_true h).elim
  kUnsafeString := fun _ => by kernel_rfl
  rOk := fun _ => by kernel_rfl
  rComplete := fun _ => by kernel_rfl
  rSpan := fun _ => by kernel_rfl
  rUvarint := fun h => (Bool.false_ne_true h).elim
  rReadUint64 := fun h => (Bool.false_ne_true h).elim
  rBool := fun h => (Bool.false_ne_true h).elim
  rInt8 := fun h => (Bool.false_ne_true h).elim
  rInt16 := fun _ => by kernel_rfl
  rUint16 := fun h => (Bool.false_ne_true h).elim
  rInt32 := fun _ => by kernel_rfl
  rInt64 := fun h => (Bool.false_ne_true h).elim
  rUuid := fun h => (Bool.false_ne_true h).elim
  rString := fun _ => by kernel_rfl
  rUnsafeString := fun _ => by kernel_rfl
  rCompactString := fun h => (Bool.false_ne_true h).elim
  rUnsafeCompactString := fun h => (Bool.false_ne_true h).elim
  rNullableString := fun _ => by kernel_rfl
  rUnsafeNullableString := fun _ => by kernel_rfl
  rCompactNullableString := fun h => (Bool.false_ne_true h).elim
  rUnsafeCompactNullableString := fun h => (Bool.false_ne_true h).elim
  rBytes := fun h => (Bool.false_ne_true h).elim
  rCompactBytes := fun h => (Bool.false_ne_true h).elim
  rNullableBytes := fun _ => by kernel_rfl
  rCompactNullableBytes := fun h => (Bool.false_ne_true h).elim
  rArrayLen := fun _ => by kernel_rfl
  rCompactArrayLen := fun h => (Bool.false_ne_true h).elim
  tSet := fun h => (Bool.false_ne_true h).elim
  tRead := fun h => (Bool.false_ne_true h).elim
theorem libI : LibI Tryd.prog F has where
  iBoolTree := fun h => (Bool.false_ne_true h).elim
  iTextTree := fun _ => by kernel_rfl
  iOctetsTree := fun _ => by kernel_rfl
  tEach := fun h => (Bool.false_ne_true h).elim
  iSorted := fun h => (Bool.false_ne_true h).elim
  sort := fun h => (Bool.false_ne_true h).elim
def T_OffsetDeleteRequest : Top := ⟨none, none, 55, 70, 71,
  (.prm .all (some (.string .empty)) (.uns (.call 72) (.call 73)) .str (.str []) (.lss .all (.call 69) 40 [.string .empty, .slice none 0 0] 76 (.prm .all (some (.string .empty)) (.uns (.call 72) (.call 73)) .str (.str []) (.lss .all (.call 69) 4 [.int .i32 0] 77 (.prm .all none (.call 78) .i32 (.int .i32 0) .nil) .nil)) .nil))⟩
def tl_OffsetDeleteRequest : Tl := (.fld .str (.lst (.tell 57) 2 (.fld .str (.lst (.tell 79) 1 (.fld (.num true) .nil) .nil)) .nil))
theorem dfs_OffsetDeleteRequest : DfsOk Tryd.prog T_OffsetDeleteRequest.sc.dfs := ⟨df_call mixed (l := []) (by kernel_rfl) (dfOk_of (by kernel_rfl)) rfl, ⟨df_call mixed (l := []) (by kernel_rfl) (dfOk_of (by kernel_rfl)) rfl, trivial⟩⟩
theorem subs_OffsetDeleteRequest : SubsOk Tryd.prog tl_OffsetDeleteRequest.subs := ⟨by kernel_rfl, ⟨by kernel_rfl, trivial⟩⟩
theorem cbs_OffsetDeleteRequest : CbsOk Tryd.prog tl_OffsetDeleteRequest.cbs := trivial
theorem msg_OffsetDeleteRequest : MsgOk Tryd.prog F has ⟨14, 15, 13, 29, 30, 31, 32, 34, 56, 33⟩ T_OffsetDeleteRequest tl_OffsetDeleteRequest [.int .i16 0, .string .empty, .slice none 0 0] 0 where
  mx := by kernel_rfl
  maxv := by kernel_rfl
  newp := by kernel_rfl
  setv := by kernel_rfl
  rf := by kernel_rfl
  urf := by kernel_rfl
  tellD := by kernel_rfl
  unsD := by kernel_rfl
  rd := by kernel_rfl
  tell := by kernel_rfl
  dfl := ⟨[], by kernel_rfl, dfOk_of (by kernel_rfl), rfl, rfl, fun _ => rfl⟩
  dfs := dfs_OffsetDeleteRequest
  okT := by kernel_rfl
  okL := by kernel_rfl
  subs := subs_OffsetDeleteRequest
  cbs := cbs_OffsetDeleteRequest
  fits := by kernel_rfl
  small := by kernel_rfl
  len := of_decide_eq_true (by kernel_rfl)
  tlen := of_decide_eq_true (by kernel_rfl)
  most := by omega


end Go.Proofs.YtioafahhbmhjmaaDoor
