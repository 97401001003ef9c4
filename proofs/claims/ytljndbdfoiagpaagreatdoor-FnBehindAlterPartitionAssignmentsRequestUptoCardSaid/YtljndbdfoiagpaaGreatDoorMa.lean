/-
  The message AlterPartitionAssignmentsRequest: its schemes, and that the program's functions are as the schemes say.
-/
import Derived.Test.YtljndbdfoiagpaaGreatDoorL
namespace Go.Proofs.YtljndbdfoiagpaaGreatDoor
open Go.Msk Go.Proofs
set_option maxRecDepth 100000

def T_AlterPartitionAssignmentsRequest : Top := ⟨none, (some 0), 55, 69, 70,
  (.prm .all none (.call 66) .i32 (.int .i32 60000) (.prm (.ge 1) none (.call 84) .bool (.bool true) (.lss .all (.flx (.call 67) (.call 68)) ⟨48, none⟩ [.string .empty, .slice none 0 0, .map none] 91 (.prm .all (some (.string .empty)) (.uns (.flx (.call 72) (.call 73)) (.flx (.call 74) (.call 75))) .str (.str []) (.lss .all (.flx (.call 67) (.call 68)) ⟨40, none⟩ [.int .i32 0, .slice none 0 0, .map none] 92 (.prm .all none (.call 66) .i32 (.int .i32 0) (.lsp .all (.flx (.call 67) (.call 68)) ⟨4, some 0⟩ (.int .i32 0) none (.call 66) .i32 (.tags 80))) (.tags 80))) (.tags 80))))⟩
def a_AlterPartitionAssignmentsRequest : ATop := ⟨some 0, (.prm .all false .i32 ⟨42, none⟩ (.prm (.ge 1) false .bool ⟨54, none⟩ (.lss .all false ⟨43, some 44⟩ 3 (.prm .all false .str ⟨45, some 46⟩ (.lss .all false ⟨43, some 44⟩ 3 (.prm .all false .i32 ⟨42, none⟩ (.lsp .all true ⟨58, some 59⟩ .i32 ⟨42, none⟩ (.tags 50 49 51))) (.tags 50 49 51))) (.tags 50 49 51))))⟩
def fx_AlterPartitionAssignmentsRequest : List FX := [.mk [(0, 3), (2, (-1)), (3, (-1)), (4, (-1)), (5, 60000)] none [], .mk [(0, 0), (1, 1), (2, (-1)), (3, (-1)), (4, (-1)), (5, 1)] none [], .mk [(0, 11), (2, (-1)), (3, (-1)), (4, (-1)), (6, 10)] (some 26) [.mk [(0, 8), (2, (-1)), (3, (-1)), (4, (-1))] none [], .mk [(0, 11), (2, (-1)), (3, (-1)), (4, (-1)), (6, 10)] (some 56) [.mk [(0, 3), (2, (-1)), (3, (-1)), (4, (-1))] none [], .mk [(0, 11), (2, (-1)), (3, 0), (4, (-1)), (6, 3)] none []]]]
theorem dfs_AlterPartitionAssignmentsRequest : DfsOk Tryz.prog T_AlterPartitionAssignmentsRequest.sc.dfs := ⟨df_call mixed (l := []) (by kernel_rfl) (dfOk_of (by kernel_rfl)) rfl, ⟨df_call mixed (l := []) (by kernel_rfl) (dfOk_of (by kernel_rfl)) rfl, trivial⟩⟩
theorem fxok_AlterPartitionAssignmentsRequest : FX.OkL Tryz.prog fx_AlterPartitionAssignmentsRequest := ⟨⟨by kernel_rfl, rfl, trivial⟩, ⟨⟨by kernel_rfl, rfl, trivial⟩, ⟨⟨by kernel_rfl, (by show _ = _; kernel_rfl), ⟨⟨by kernel_rfl, rfl, trivial⟩, ⟨⟨by kernel_rfl, (by show _ = _; kernel_rfl), ⟨⟨by kernel_rfl, rfl, trivial⟩, ⟨⟨by kernel_rfl, rfl, trivial⟩, trivial⟩⟩⟩, trivial⟩⟩⟩, trivial⟩⟩⟩
theorem msg_AlterPartitionAssignmentsRequest : BehOk Tryz.prog F has ⟨12, 24, 25, 27, 28, 57, 29, 14, 13⟩ T_AlterPartitionAssignmentsRequest a_AlterPartitionAssignmentsRequest fx_AlterPartitionAssignmentsRequest 0 [.int .i16 0, .int .i32 0, .bool false, .slice none 0 0, .map none] 1 where
  mx := by kernel_rfl
  maxv := by kernel_rfl
  newp := by kernel_rfl
  setv := by kernel_rfl
  rf := by kernel_rfl
  rd := by kernel_rfl
  ap := by kernel_rfl
  beh := by kernel_rfl
  sm := by kernel_rfl
  fxs := fxok_AlterPartitionAssignmentsRequest
  cnt := by kernel_rfl
  dfl := ⟨[(1, .int .i32 60000), (2, .bool true)], by kernel_rfl, dfOk_of (by kernel_rfl), rfl, rfl, fun _ => rfl⟩
  dfs := dfs_AlterPartitionAssignmentsRequest
  okT := by kernel_rfl
  okA := by kernel_rfl
  rt := by kernel_rfl
  most := by omega

end Go.Proofs.YtljndbdfoiagpaaGreatDoor
