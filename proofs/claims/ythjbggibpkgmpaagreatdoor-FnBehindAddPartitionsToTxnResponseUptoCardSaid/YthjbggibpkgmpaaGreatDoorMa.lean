/-
  The message AddPartitionsToTxnResponse: its schemes, and that the program's functions are as the schemes say.
-/
import Derived.Test.YthjbggibpkgmpaaGreatDoorL
namespace Go.Proofs.YthjbggibpkgmpaaGreatDoor
open Go.Msk Go.Proofs
set_option maxRecDepth 100000

def T_AddPartitionsToTxnResponse : Top := ⟨none, (some 3), 155, 184, 185,
  (.prm .all none (.call 194) .i32 (.int .i32 0) (.prm (.ge 4) none (.call 195) .i16 (.int .i16 0) (.lss (.ge 4) (.flx (.call 182) (.call 183)) 48 [.string .empty, .slice none 0 0, .map none] 211 (.prm .all (some (.string .empty)) (.uns (.flx (.call 186) (.call 187)) (.flx (.call 188) (.call 189))) .str (.str []) (.lss .all (.flx (.call 182) (.call 183)) 48 [.string .empty, .slice none 0 0, .map none] 212 (.prm .all (some (.string .empty)) (.uns (.flx (.call 186) (.call 187)) (.flx (.call 188) (.call 189))) .str (.str []) (.lss .all (.flx (.call 182) (.call 183)) 16 [.int .i32 0, .int .i16 0, .map none] 213 (.prm .all none (.call 194) .i32 (.int .i32 0) (.prm .all none (.call 195) .i16 (.int .i16 0) (.tags 190))) (.tags 190))) (.tags 190))) (.lss (.rng 0 3) (.flx (.call 182) (.call 183)) 48 [.string .empty, .slice none 0 0, .map none] 214 (.prm .all (some (.string .empty)) (.uns (.flx (.call 186) (.call 187)) (.flx (.call 188) (.call 189))) .str (.str []) (.lss .all (.flx (.call 182) (.call 183)) 16 [.int .i32 0, .int .i16 0, .map none] 215 (.prm .all none (.call 194) .i32 (.int .i32 0) (.prm .all none (.call 195) .i16 (.int .i16 0) (.tags 190))) (.tags 190))) (.tags 190)))))⟩
def a_AddPartitionsToTxnResponse : ATop := ⟨some 3, (.prm .all false .i32 ⟨140, none⟩ (.prm (.ge 4) false .i16 ⟨141, none⟩ (.lss (.ge 4) false ⟨131, some 132⟩ 3 (.prm .all false .str ⟨133, some 134⟩ (.lss .all false ⟨131, some 132⟩ 3 (.prm .all false .str ⟨133, some 134⟩ (.lss .all false ⟨131, some 132⟩ 3 (.prm .all false .i32 ⟨140, none⟩ (.prm .all false .i16 ⟨141, none⟩ (.tags 136 135 137))) (.tags 136 135 137))) (.tags 136 135 137))) (.lss (.rng 0 3) false ⟨131, some 132⟩ 3 (.prm .all false .str ⟨133, some 134⟩ (.lss .all false ⟨131, some 132⟩ 3 (.prm .all false .i32 ⟨140, none⟩ (.prm .all false .i16 ⟨141, none⟩ (.tags 136 135 137))) (.tags 136 135 137))) (.tags 136 135 137)))))⟩
def fx_AddPartitionsToTxnResponse : List FX := [.mk [(0, 3), (2, (-1)), (3, (-1)), (4, (-1))] none [], .mk [(0, 2), (1, 4), (2, (-1)), (3, (-1)), (4, (-1))] none [], .mk [(0, 11), (1, 4), (2, (-1)), (3, (-1)), (4, (-1)), (6, 10)] (some 84) [.mk [(0, 8), (2, (-1)), (3, (-1)), (4, (-1))] none [], .mk [(0, 11), (2, (-1)), (3, (-1)), (4, (-1)), (6, 10)] (some 156) [.mk [(0, 8), (2, (-1)), (3, (-1)), (4, (-1))] none [], .mk [(0, 11), (2, (-1)), (3, (-1)), (4, (-1)), (6, 10)] (some 210) [.mk [(0, 3), (2, (-1)), (3, (-1)), (4, (-1))] none [], .mk [(0, 2), (2, (-1)), (3, (-1)), (4, (-1))] none []]]], .mk [(0, 11), (2, 3), (3, (-1)), (4, (-1)), (6, 10)] (some 85) [.mk [(0, 8), (2, (-1)), (3, (-1)), (4, (-1))] none [], .mk [(0, 11), (2, (-1)), (3, (-1)), (4, (-1)), (6, 10)] (some 157) [.mk [(0, 3), (2, (-1)), (3, (-1)), (4, (-1))] none [], .mk [(0, 2), (2, (-1)), (3, (-1)), (4, (-1))] none []]]]
theorem dfs_AddPartitionsToTxnResponse : DfsOk Tryz.prog T_AddPartitionsToTxnResponse.sc.dfs := ⟨df_call mixed (l := []) (by kernel_rfl) (dfOk_of (by kernel_rfl)) rfl, ⟨df_call mixed (l := []) (by kernel_rfl) (dfOk_of (by kernel_rfl)) rfl, ⟨df_call mixed (l := []) (by kernel_rfl) (dfOk_of (by kernel_rfl)) rfl, ⟨df_call mixed (l := []) (by kernel_rfl) (dfOk_of (by kernel_rfl)) rfl, ⟨df_call mixed (l := []) (by kernel_rfl) (dfOk_of (by kernel_rfl)) rfl, trivial⟩⟩⟩⟩⟩
theorem fxok_AddPartitionsToTxnResponse : FX.OkL Tryz.prog fx_AddPartitionsToTxnResponse := ⟨⟨by kernel_rfl, rfl, trivial⟩, ⟨⟨by kernel_rfl, rfl, trivial⟩, ⟨⟨by kernel_rfl, (by show _ = _; kernel_rfl), ⟨⟨by kernel_rfl, rfl, trivial⟩, ⟨⟨by kernel_rfl, (by show _ = _; kernel_rfl), ⟨⟨by kernel_rfl, rfl, trivial⟩, ⟨⟨by kernel_rfl, (by show _ = _; kernel_rfl), ⟨⟨by kernel_rfl, rfl, trivial⟩, ⟨⟨by kernel_rfl, rfl, trivial⟩, trivial⟩⟩⟩, trivial⟩⟩⟩, trivial⟩⟩⟩, ⟨⟨by kernel_rfl, (by show _ = _; kernel_rfl), ⟨⟨by kernel_rfl, rfl, trivial⟩, ⟨⟨by kernel_rfl, (by show _ = _; kernel_rfl), ⟨⟨by kernel_rfl, rfl, trivial⟩, ⟨⟨by kernel_rfl, rfl, trivial⟩, trivial⟩⟩⟩, trivial⟩⟩⟩, trivial⟩⟩⟩⟩
theorem msg_AddPartitionsToTxnResponse : BehOk Tryz.prog F has ⟨33, 82, 83, 86, 87, 158, 88, 35, 34⟩ T_AddPartitionsToTxnResponse a_AddPartitionsToTxnResponse fx_AddPartitionsToTxnResponse 3 [.int .i16 0, .int .i32 0, .int .i16 0, .slice none 0 0, .slice none 0 0, .map none] 5 where
  mx := by kernel_rfl
  maxv := by kernel_rfl
  newp := by kernel_rfl
  setv := by kernel_rfl
  rf := by kernel_rfl
  rd := by kernel_rfl
  ap := by kernel_rfl
  beh := by kernel_rfl
  sm := by kernel_rfl
  fxs := fxok_AddPartitionsToTxnResponse
  cnt := by kernel_rfl
  dfl := ⟨[], by kernel_rfl, dfOk_of (by kernel_rfl), rfl, rfl, fun _ => rfl⟩
  dfs := dfs_AddPartitionsToTxnResponse
  okT := by kernel_rfl
  okA := by kernel_rfl
  rt := by kernel_rfl
  most := by omega

end Go.Proofs.YthjbggibpkgmpaaGreatDoor
