/-
  The message ListPartitionReassignmentsRequest: its schemes, and that the program's functions are as the schemes say.
-/
import Derived.Test.YtebigehbjfnfjaaL
namespace Go.Proofs.Ytebigehbjfnfjaa
open Go.Msk Go.Proofs
set_option maxRecDepth 100000

def T_ListPartitionReassignmentsRequest : Fl := (.prm .i32 (.lss 105 48 (.prm .str (.lsp .i32 4 (.tags 86))) (.tags 86)))
def a_ListPartitionReassignmentsRequest : ATop := ⟨some 0, (.prm .all false .i32 ⟨106, none⟩ (.lss .all true ⟨107, some 108⟩ 3 (.prm .all false .str ⟨101, some 102⟩ (.lsp .all false ⟨87, some 88⟩ .i32 ⟨106, none⟩ (.tags 91 90 92))) (.tags 91 90 92)))⟩
def fx_ListPartitionReassignmentsRequest : List FX := [.mk [(0, 3), (2, (-1)), (3, (-1)), (4, (-1)), (5, 60000)] none [], .mk [(0, 11), (2, (-1)), (3, 0), (4, (-1)), (6, 10)] (some 55) [.mk [(0, 8), (2, (-1)), (3, (-1)), (4, (-1))] none [], .mk [(0, 11), (2, (-1)), (3, (-1)), (4, (-1)), (6, 3)] none []]]
theorem fxok_ListPartitionReassignmentsRequest : FX.OkL Try.prog fx_ListPartitionReassignmentsRequest := ⟨⟨by kernel_rfl, rfl, trivial⟩, ⟨⟨by kernel_rfl, (by show _ = _; kernel_rfl), ⟨⟨by kernel_rfl, rfl, trivial⟩, ⟨⟨by kernel_rfl, rfl, trivial⟩, trivial⟩⟩⟩, trivial⟩⟩
theorem mks_ListPartitionReassignmentsRequest : T_ListPartitionReassignmentsRequest.Mks Try.prog F := ⟨by kernel_rfl, trivial, trivial⟩
theorem msg_ListPartitionReassignmentsRequest : MakeOk Try.prog F has ⟨22, 53, 54, 104, 56, 57, 58, 24, 23⟩ T_ListPartitionReassignmentsRequest a_ListPartitionReassignmentsRequest fx_ListPartitionReassignmentsRequest 0 0 where
  mx := by kernel_rfl
  maxv := by kernel_rfl
  newp := by kernel_rfl
  dfl := ⟨[(1, .int .i32 60000)], by kernel_rfl, dfOk_of (by kernel_rfl)⟩
  setv := by kernel_rfl
  fill := by kernel_rfl
  ap := by kernel_rfl
  make := by kernel_rfl
  sm := by kernel_rfl
  fxs := fxok_ListPartitionReassignmentsRequest
  cnt := by kernel_rfl
  okF := by kernel_rfl
  mks := mks_ListPartitionReassignmentsRequest
  one := by kernel_rfl
  okA := by kernel_rfl
  agree := by kernel_rfl
  most := by omega

end Go.Proofs.Ytebigehbjfnfjaa
