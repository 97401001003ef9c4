/-
  The message EndQuorumEpochRequest: its schemes, and that the program's functions are as the schemes say.
-/
import Derived.Test.YthjbggibpkgmpaaGreatDoorL
namespace Go.Proofs.YthjbggibpkgmpaaGreatDoor
open Go.Msk Go.Proofs
set_option maxRecDepth 100000

def T_EndQuorumEpochRequest : Top := ⟨none, (some 1), 166, 184, 185,
  (.prm .all (some (.pointer none)) (.flx (.uns (.call 196) (.call 197)) (.uns (.call 198) (.call 199))) .nstr .nstr (.lss .all (.flx (.call 182) (.call 183)) 48 [.string .empty, .slice none 0 0, .map none] 225 (.prm .all (some (.string .empty)) (.uns (.flx (.call 186) (.call 187)) (.flx (.call 188) (.call 189))) .str (.str []) (.lss .all (.flx (.call 182) (.call 183)) 72 [.int .i32 0, .int .i32 0, .int .i32 0, .slice none 0 0, .slice none 0 0, .map none] 226 (.prm .all none (.call 194) .i32 (.int .i32 0) (.prm .all none (.call 194) .i32 (.int .i32 0) (.prm .all none (.call 194) .i32 (.int .i32 0) (.lsp (.rng 0 0) (.flx (.call 182) (.call 183)) 4 (.int .i32 0) none (.call 194) .i32 (.lss (.ge 1) (.flx (.call 182) (.call 183)) 32 [.int .i32 0, .int .u8 0, .int .u8 0, .int .u8 0, .int .u8 0, .int .u8 0, .int .u8 0, .int .u8 0, .int .u8 0, .int .u8 0, .int .u8 0, .int .u8 0, .int .u8 0, .int .u8 0, .int .u8 0, .int .u8 0, .int .u8 0, .map none] 227 (.prm .all none (.call 194) .i32 (.int .i32 0) (.uid .all 201 (.tags 190))) (.tags 190)))))) (.tags 190))) (.lss (.ge 1) (.flx (.call 182) (.call 183)) 48 [.string .empty, .string .empty, .int .u16 0, .map none] 228 (.prm .all (some (.string .empty)) (.uns (.flx (.call 186) (.call 187)) (.flx (.call 188) (.call 189))) .str (.str []) (.prm .all (some (.string .empty)) (.uns (.flx (.call 186) (.call 187)) (.flx (.call 188) (.call 189))) .str (.str []) (.prm .all none (.call 229) .u16 (.int .u16 0) (.tags 190)))) (.tags 190))))⟩
def a_EndQuorumEpochRequest : ATop := ⟨some 1, (.prm .all false .nstr ⟨142, some 143⟩ (.lss .all false ⟨131, some 132⟩ 3 (.prm .all false .str ⟨133, some 134⟩ (.lss .all false ⟨131, some 132⟩ 6 (.prm .all false .i32 ⟨140, none⟩ (.prm .all false .i32 ⟨140, none⟩ (.prm .all false .i32 ⟨140, none⟩ (.lsp (.rng 0 0) false ⟨131, some 132⟩ .i32 ⟨140, none⟩ (.lss (.ge 1) false ⟨131, some 132⟩ 18 (.prm .all false .i32 ⟨140, none⟩ (.uid .all 144 (.tags 136 135 137))) (.tags 136 135 137)))))) (.tags 136 135 137))) (.lss (.ge 1) false ⟨131, some 132⟩ 4 (.prm .all false .str ⟨133, some 134⟩ (.prm .all false .str ⟨133, some 134⟩ (.prm .all false .u16 ⟨169, none⟩ (.tags 136 135 137)))) (.tags 136 135 137))))⟩
def fx_EndQuorumEpochRequest : List FX := [.mk [(0, 8), (2, (-1)), (3, 0), (4, (-1))] none [], .mk [(0, 11), (2, (-1)), (3, (-1)), (4, (-1)), (6, 10)] (some 103) [.mk [(0, 8), (2, (-1)), (3, (-1)), (4, (-1))] none [], .mk [(0, 11), (2, (-1)), (3, (-1)), (4, (-1)), (6, 10)] (some 167) [.mk [(0, 3), (2, (-1)), (3, (-1)), (4, (-1))] none [], .mk [(0, 3), (2, (-1)), (3, (-1)), (4, (-1))] none [], .mk [(0, 3), (2, (-1)), (3, (-1)), (4, (-1))] none [], .mk [(0, 11), (2, 0), (3, (-1)), (4, (-1)), (6, 3)] none [], .mk [(0, 11), (1, 1), (2, (-1)), (3, (-1)), (4, (-1)), (6, 10)] (some 224) [.mk [(0, 3), (2, (-1)), (3, (-1)), (4, (-1))] none [], .mk [(0, 7), (2, (-1)), (3, (-1)), (4, (-1))] none []]]], .mk [(0, 11), (1, 1), (2, (-1)), (3, (-1)), (4, (-1)), (6, 10)] (some 104) [.mk [(0, 8), (2, (-1)), (3, (-1)), (4, (-1))] none [], .mk [(0, 8), (2, (-1)), (3, (-1)), (4, (-1))] none [], .mk [(0, 5), (2, (-1)), (3, (-1)), (4, (-1))] none []]]
theorem dfs_EndQuorumEpochRequest : DfsOk Tryz.prog T_EndQuorumEpochRequest.sc.dfs := ⟨df_call mixed (l := []) (by kernel_rfl) (dfOk_of (by kernel_rfl)) rfl, ⟨df_call mixed (l := []) (by kernel_rfl) (dfOk_of (by kernel_rfl)) rfl, ⟨df_call mixed (l := []) (by kernel_rfl) (dfOk_of (by kernel_rfl)) rfl, ⟨df_call mixed (l := []) (by kernel_rfl) (dfOk_of (by kernel_rfl)) rfl, trivial⟩⟩⟩⟩
theorem fxok_EndQuorumEpochRequest : FX.OkL Tryz.prog fx_EndQuorumEpochRequest := ⟨⟨by kernel_rfl, rfl, trivial⟩, ⟨⟨by kernel_rfl, (by show _ = _; kernel_rfl), ⟨⟨by kernel_rfl, rfl, trivial⟩, ⟨⟨by kernel_rfl, (by show _ = _; kernel_rfl), ⟨⟨by kernel_rfl, rfl, trivial⟩, ⟨⟨by kernel_rfl, rfl, trivial⟩, ⟨⟨by kernel_rfl, rfl, trivial⟩, ⟨⟨by kernel_rfl, rfl, trivial⟩, ⟨⟨by kernel_rfl, (by show _ = _; kernel_rfl), ⟨⟨by kernel_rfl, rfl, trivial⟩, ⟨⟨by kernel_rfl, rfl, trivial⟩, trivial⟩⟩⟩, trivial⟩⟩⟩⟩⟩⟩, trivial⟩⟩⟩, ⟨⟨by kernel_rfl, (by show _ = _; kernel_rfl), ⟨⟨by kernel_rfl, rfl, trivial⟩, ⟨⟨by kernel_rfl, rfl, trivial⟩, ⟨⟨by kernel_rfl, rfl, trivial⟩, trivial⟩⟩⟩⟩, trivial⟩⟩⟩
theorem msg_EndQuorumEpochRequest : BehOk Tryz.prog F has ⟨42, 101, 102, 105, 106, 168, 107, 44, 43⟩ T_EndQuorumEpochRequest a_EndQuorumEpochRequest fx_EndQuorumEpochRequest 1 [.int .i16 0, .pointer none, .slice none 0 0, .slice none 0 0, .map none] 1 where
  mx := by kernel_rfl
  maxv := by kernel_rfl
  newp := by kernel_rfl
  setv := by kernel_rfl
  rf := by kernel_rfl
  rd := by kernel_rfl
  ap := by kernel_rfl
  beh := by kernel_rfl
  sm := by kernel_rfl
  fxs := fxok_EndQuorumEpochRequest
  cnt := by kernel_rfl
  dfl := ⟨[], by kernel_rfl, dfOk_of (by kernel_rfl), rfl, rfl, fun _ => rfl⟩
  dfs := dfs_EndQuorumEpochRequest
  okT := by kernel_rfl
  okA := by kernel_rfl
  rt := by kernel_rfl
  most := by omega

end Go.Proofs.YthjbggibpkgmpaaGreatDoor
