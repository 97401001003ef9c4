/-
  The message DeleteACLsResponse: its schemes, and that the program's functions are as the schemes say.
-/
import Derived.Test.YthjbggibpkgmpaaGreatDoorL
namespace Go.Proofs.YthjbggibpkgmpaaGreatDoor
open Go.Msk Go.Proofs
set_option maxRecDepth 100000

def T_DeleteACLsResponse : Top := ⟨none, (some 2), 159, 184, 185,
  (.prm .all none (.call 194) .i32 (.int .i32 0) (.lss .all (.flx (.call 182) (.call 183)) 48 [.int .i16 0, .pointer none, .slice none 0 0, .map none] 216 (.prm .all none (.call 195) .i16 (.int .i16 0) (.prm .all (some (.pointer none)) (.flx (.uns (.call 196) (.call 197)) (.uns (.call 198) (.call 199))) .nstr .nstr (.lss .all (.flx (.call 182) (.call 183)) 96 [.int .i16 0, .pointer none, .int .i8 0, .string .empty, .int .i8 0, .string .empty, .string .empty, .int .i8 0, .int .i8 0, .map none] 217 (.prm .all none (.call 195) .i16 (.int .i16 0) (.prm .all (some (.pointer none)) (.flx (.uns (.call 196) (.call 197)) (.uns (.call 198) (.call 199))) .nstr .nstr (.enm .all (.int .i8 0) (.call 206) .i8 (.int .i8 0) (.prm .all (some (.string .empty)) (.uns (.flx (.call 186) (.call 187)) (.flx (.call 188) (.call 189))) .str (.str []) (.enm (.ge 1) (.int .i8 0) (.call 206) .i8 (.int .i8 3) (.prm .all (some (.string .empty)) (.uns (.flx (.call 186) (.call 187)) (.flx (.call 188) (.call 189))) .str (.str []) (.prm .all (some (.string .empty)) (.uns (.flx (.call 186) (.call 187)) (.flx (.call 188) (.call 189))) .str (.str []) (.enm .all (.int .i8 0) (.call 206) .i8 (.int .i8 0) (.enm .all (.int .i8 0) (.call 206) .i8 (.int .i8 0) (.tags 190)))))))))) (.tags 190)))) (.tags 190)))⟩
def a_DeleteACLsResponse : ATop := ⟨some 2, (.prm .all false .i32 ⟨140, none⟩ (.lss .all false ⟨131, some 132⟩ 4 (.prm .all false .i16 ⟨141, none⟩ (.prm .all false .nstr ⟨142, some 143⟩ (.lss .all false ⟨131, some 132⟩ 10 (.prm .all false .i16 ⟨141, none⟩ (.prm .all false .nstr ⟨142, some 143⟩ (.prm .all true .i8 ⟨150, none⟩ (.prm .all false .str ⟨133, some 134⟩ (.prm (.ge 1) true .i8 ⟨150, none⟩ (.prm .all false .str ⟨133, some 134⟩ (.prm .all false .str ⟨133, some 134⟩ (.prm .all true .i8 ⟨150, none⟩ (.prm .all true .i8 ⟨150, none⟩ (.tags 136 135 137)))))))))) (.tags 136 135 137)))) (.tags 136 135 137)))⟩
def fx_DeleteACLsResponse : List FX := [.mk [(0, 3), (2, (-1)), (3, (-1)), (4, (-1))] none [], .mk [(0, 11), (2, (-1)), (3, (-1)), (4, (-1)), (6, 10)] (some 91) [.mk [(0, 2), (2, (-1)), (3, (-1)), (4, (-1))] none [], .mk [(0, 8), (2, (-1)), (3, 0), (4, (-1))] none [], .mk [(0, 11), (2, (-1)), (3, (-1)), (4, (-1)), (6, 10)] (some 160) [.mk [(0, 2), (2, (-1)), (3, (-1)), (4, (-1))] none [], .mk [(0, 8), (2, (-1)), (3, 0), (4, (-1))] none [], .mk [(0, 1), (2, (-1)), (3, (-1)), (4, (-1))] none [], .mk [(0, 8), (2, (-1)), (3, (-1)), (4, (-1))] none [], .mk [(0, 1), (1, 1), (2, (-1)), (3, (-1)), (4, (-1)), (5, 3)] none [], .mk [(0, 8), (2, (-1)), (3, (-1)), (4, (-1))] none [], .mk [(0, 8), (2, (-1)), (3, (-1)), (4, (-1))] none [], .mk [(0, 1), (2, (-1)), (3, (-1)), (4, (-1))] none [], .mk [(0, 1), (2, (-1)), (3, (-1)), (4, (-1))] none []]]]
theorem dfs_DeleteACLsResponse : DfsOk Tryz.prog T_DeleteACLsResponse.sc.dfs := ⟨df_call mixed (l := []) (by kernel_rfl) (dfOk_of (by kernel_rfl)) rfl, ⟨df_call mixed (l := [(4, .int .i8 3)]) (by kernel_rfl) (dfOk_of (by kernel_rfl)) rfl, trivial⟩⟩
theorem fxok_DeleteACLsResponse : FX.OkL Tryz.prog fx_DeleteACLsResponse := ⟨⟨by kernel_rfl, rfl, trivial⟩, ⟨⟨by kernel_rfl, (by show _ = _; kernel_rfl), ⟨⟨by kernel_rfl, rfl, trivial⟩, ⟨⟨by kernel_rfl, rfl, trivial⟩, ⟨⟨by kernel_rfl, (by show _ = _; kernel_rfl), ⟨⟨by kernel_rfl, rfl, trivial⟩, ⟨⟨by kernel_rfl, rfl, trivial⟩, ⟨⟨by kernel_rfl, rfl, trivial⟩, ⟨⟨by kernel_rfl, rfl, trivial⟩, ⟨⟨by kernel_rfl, rfl, trivial⟩, ⟨⟨by kernel_rfl, rfl, trivial⟩, ⟨⟨by kernel_rfl, rfl, trivial⟩, ⟨⟨by kernel_rfl, rfl, trivial⟩, ⟨⟨by kernel_rfl, rfl, trivial⟩, trivial⟩⟩⟩⟩⟩⟩⟩⟩⟩⟩, trivial⟩⟩⟩⟩, trivial⟩⟩
theorem msg_DeleteACLsResponse : BehOk Tryz.prog F has ⟨36, 89, 90, 92, 93, 161, 94, 38, 37⟩ T_DeleteACLsResponse a_DeleteACLsResponse fx_DeleteACLsResponse 2 [.int .i16 0, .int .i32 0, .slice none 0 0, .map none] 3 where
  mx := by kernel_rfl
  maxv := by kernel_rfl
  newp := by kernel_rfl
  setv := by kernel_rfl
  rf := by kernel_rfl
  rd := by kernel_rfl
  ap := by kernel_rfl
  beh := by kernel_rfl
  sm := by kernel_rfl
  fxs := fxok_DeleteACLsResponse
  cnt := by kernel_rfl
  dfl := ⟨[], by kernel_rfl, dfOk_of (by kernel_rfl), rfl, rfl, fun _ => rfl⟩
  dfs := dfs_DeleteACLsResponse
  okT := by kernel_rfl
  okA := by kernel_rfl
  rt := by kernel_rfl
  most := by omega

end Go.Proofs.YthjbggibpkgmpaaGreatDoor
