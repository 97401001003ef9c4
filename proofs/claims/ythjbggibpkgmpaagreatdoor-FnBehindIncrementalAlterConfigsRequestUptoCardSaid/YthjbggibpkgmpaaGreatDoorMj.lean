/-
  The message IncrementalAlterConfigsRequest: its schemes, and that the program's functions are as the schemes say.
-/
import Derived.Test.YthjbggibpkgmpaaGreatDoorL
namespace Go.Proofs.YthjbggibpkgmpaaGreatDoor
open Go.Msk Go.Proofs
set_option maxRecDepth 100000

def T_IncrementalAlterConfigsRequest : Top := ⟨none, (some 1), 151, 184, 185,
  (.lss .all (.flx (.call 182) (.call 183)) 56 [.int .i8 0, .string .empty, .slice none 0 0, .map none] 207 (.enm .all (.int .i8 0) (.call 206) .i8 (.int .i8 0) (.prm .all (some (.string .empty)) (.uns (.flx (.call 186) (.call 187)) (.flx (.call 188) (.call 189))) .str (.str []) (.lss .all (.flx (.call 182) (.call 183)) 40 [.string .empty, .int .i8 0, .pointer none, .map none] 208 (.prm .all (some (.string .empty)) (.uns (.flx (.call 186) (.call 187)) (.flx (.call 188) (.call 189))) .str (.str []) (.enm .all (.int .i8 0) (.call 206) .i8 (.int .i8 0) (.prm .all (some (.pointer none)) (.flx (.uns (.call 196) (.call 197)) (.uns (.call 198) (.call 199))) .nstr .nstr (.tags 190)))) (.tags 190)))) (.prm .all none (.call 209) .bool (.bool false) (.tags 190)))⟩
def a_IncrementalAlterConfigsRequest : ATop := ⟨some 1, (.lss .all false ⟨131, some 132⟩ 4 (.prm .all true .i8 ⟨150, none⟩ (.prm .all false .str ⟨133, some 134⟩ (.lss .all false ⟨131, some 132⟩ 4 (.prm .all false .str ⟨133, some 134⟩ (.prm .all true .i8 ⟨150, none⟩ (.prm .all false .nstr ⟨142, some 143⟩ (.tags 136 135 137)))) (.tags 136 135 137)))) (.prm .all false .bool ⟨154, none⟩ (.tags 136 135 137)))⟩
def fx_IncrementalAlterConfigsRequest : List FX := [.mk [(0, 11), (2, (-1)), (3, (-1)), (4, (-1)), (6, 10)] (some 78) [.mk [(0, 1), (2, (-1)), (3, (-1)), (4, (-1))] none [], .mk [(0, 8), (2, (-1)), (3, (-1)), (4, (-1))] none [], .mk [(0, 11), (2, (-1)), (3, (-1)), (4, (-1)), (6, 10)] (some 152) [.mk [(0, 8), (2, (-1)), (3, (-1)), (4, (-1))] none [], .mk [(0, 1), (2, (-1)), (3, (-1)), (4, (-1))] none [], .mk [(0, 8), (2, (-1)), (3, 0), (4, (-1))] none []]], .mk [(0, 0), (2, (-1)), (3, (-1)), (4, (-1))] none []]
theorem dfs_IncrementalAlterConfigsRequest : DfsOk Tryz.prog T_IncrementalAlterConfigsRequest.sc.dfs := ⟨df_call mixed (l := []) (by kernel_rfl) (dfOk_of (by kernel_rfl)) rfl, ⟨df_call mixed (l := []) (by kernel_rfl) (dfOk_of (by kernel_rfl)) rfl, trivial⟩⟩
theorem fxok_IncrementalAlterConfigsRequest : FX.OkL Tryz.prog fx_IncrementalAlterConfigsRequest := ⟨⟨by kernel_rfl, (by show _ = _; kernel_rfl), ⟨⟨by kernel_rfl, rfl, trivial⟩, ⟨⟨by kernel_rfl, rfl, trivial⟩, ⟨⟨by kernel_rfl, (by show _ = _; kernel_rfl), ⟨⟨by kernel_rfl, rfl, trivial⟩, ⟨⟨by kernel_rfl, rfl, trivial⟩, ⟨⟨by kernel_rfl, rfl, trivial⟩, trivial⟩⟩⟩⟩, trivial⟩⟩⟩⟩, ⟨⟨by kernel_rfl, rfl, trivial⟩, trivial⟩⟩
theorem msg_IncrementalAlterConfigsRequest : BehOk Tryz.prog F has ⟨30, 76, 77, 79, 80, 153, 81, 32, 31⟩ T_IncrementalAlterConfigsRequest a_IncrementalAlterConfigsRequest fx_IncrementalAlterConfigsRequest 1 [.int .i16 0, .slice none 0 0, .bool false, .map none] 1 where
  mx := by kernel_rfl
  maxv := by kernel_rfl
  newp := by kernel_rfl
  setv := by kernel_rfl
  rf := by kernel_rfl
  rd := by kernel_rfl
  ap := by kernel_rfl
  beh := by kernel_rfl
  sm := by kernel_rfl
  fxs := fxok_IncrementalAlterConfigsRequest
  cnt := by kernel_rfl
  dfl := ⟨[], by kernel_rfl, dfOk_of (by kernel_rfl), rfl, rfl, fun _ => rfl⟩
  dfs := dfs_IncrementalAlterConfigsRequest
  okT := by kernel_rfl
  okA := by kernel_rfl
  rt := by kernel_rfl
  most := by omega

end Go.Proofs.YthjbggibpkgmpaaGreatDoor
