/-
  The message AddOffsetsToTxnRequest: its schemes, and that the program's functions are as the schemes say.
-/
import Derived.Test.YtfpobhhgbmbeaaaDoorL
namespace Go.Proofs.YtfpobhhgbmbeaaaDoor
open Go.Msk Go.Proofs
set_option maxRecDepth 100000

def T_AddOffsetsToTxnRequest : Top := ⟨none, (some 3), 105, 116, 117,
  (.prm .all (some (.string .empty)) (.uns (.flx (.call 133) (.call 118)) (.flx (.call 134) (.call 119))) .str (.str []) (.prm .all none (.call 128) .i64 (.int .i64 0) (.prm .all none (.call 114) .i16 (.int .i16 0) (.prm .all (some (.string .empty)) (.uns (.flx (.call 133) (.call 118)) (.flx (.call 134) (.call 119))) .str (.str []) (.tags 123)))))⟩
def a_AddOffsetsToTxnRequest : ATop := ⟨some 3, (.prm .all false .str ⟨107, some 85⟩ (.prm .all false .i64 ⟨96, none⟩ (.prm .all false .i16 ⟨83, none⟩ (.prm .all false .str ⟨107, some 85⟩ (.tags 91 90 92)))))⟩
def fx_AddOffsetsToTxnRequest : List FX := [.mk [(0, 8), (2, (-1)), (3, (-1)), (4, (-1))] none [], .mk [(0, 4), (2, (-1)), (3, (-1)), (4, (-1))] none [], .mk [(0, 2), (2, (-1)), (3, (-1)), (4, (-1))] none [], .mk [(0, 8), (2, (-1)), (3, (-1)), (4, (-1))] none []]
theorem dfs_AddOffsetsToTxnRequest : DfsOk Tryd.prog T_AddOffsetsToTxnRequest.sc.dfs := trivial
theorem fxok_AddOffsetsToTxnRequest : FX.OkL Tryd.prog fx_AddOffsetsToTxnRequest := ⟨⟨by kernel_rfl, rfl, trivial⟩, ⟨⟨by kernel_rfl, rfl, trivial⟩, ⟨⟨by kernel_rfl, rfl, trivial⟩, ⟨⟨by kernel_rfl, rfl, trivial⟩, trivial⟩⟩⟩⟩
theorem msg_AddOffsetsToTxnRequest : BehOk Tryd.prog F has ⟨32, 67, 68, 69, 70, 106, 71, 34, 33⟩ T_AddOffsetsToTxnRequest a_AddOffsetsToTxnRequest fx_AddOffsetsToTxnRequest 3 [.int .i16 0, .string .empty, .int .i64 0, .int .i16 0, .string .empty, .map none] 4 where
  mx := by kernel_rfl
  maxv := by kernel_rfl
  newp := by kernel_rfl
  setv := by kernel_rfl
  rf := by kernel_rfl
  rd := by kernel_rfl
  ap := by kernel_rfl
  beh := by kernel_rfl
  sm := by kernel_rfl
  fxs := fxok_AddOffsetsToTxnRequest
  cnt := by kernel_rfl
  dfl := ⟨[], by kernel_rfl, dfOk_of (by kernel_rfl), rfl, rfl, fun _ => rfl⟩
  dfs := dfs_AddOffsetsToTxnRequest
  okT := by kernel_rfl
  okA := by kernel_rfl
  rt := by kernel_rfl
  size := by kernel_rfl
  sizef := by kernel_rfl
  most := by omega

end Go.Proofs.YtfpobhhgbmbeaaaDoor
