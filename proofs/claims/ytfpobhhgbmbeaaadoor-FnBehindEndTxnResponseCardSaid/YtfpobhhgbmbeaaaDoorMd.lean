/-
  The message EndTxnResponse: its schemes, and that the program's functions are as the schemes say.
-/
import Derived.Test.YtfpobhhgbmbeaaaDoorL
namespace Go.Proofs.YtfpobhhgbmbeaaaDoor
open Go.Msk Go.Proofs
set_option maxRecDepth 100000

def T_EndTxnResponse : Top := ⟨none, (some 3), 103, 116, 117,
  (.prm .all none (.call 127) .i32 (.int .i32 0) (.prm .all none (.call 114) .i16 (.int .i16 0) (.prm (.ge 5) none (.call 128) .i64 (.int .i64 (-1)) (.prm (.ge 5) none (.call 114) .i16 (.int .i16 (-1)) (.tags 123)))))⟩
def a_EndTxnResponse : ATop := ⟨some 3, (.prm .all false .i32 ⟨95, none⟩ (.prm .all false .i16 ⟨83, none⟩ (.prm (.ge 5) false .i64 ⟨96, none⟩ (.prm (.ge 5) false .i16 ⟨83, none⟩ (.tags 91 90 92)))))⟩
def fx_EndTxnResponse : List FX := [.mk [(0, 3), (2, (-1)), (3, (-1)), (4, (-1))] none [], .mk [(0, 2), (2, (-1)), (3, (-1)), (4, (-1))] none [], .mk [(0, 4), (1, 5), (2, (-1)), (3, (-1)), (4, (-1)), (5, (-1))] none [], .mk [(0, 2), (1, 5), (2, (-1)), (3, (-1)), (4, (-1)), (5, (-1))] none []]
theorem dfs_EndTxnResponse : DfsOk Tryd.prog T_EndTxnResponse.sc.dfs := trivial
theorem fxok_EndTxnResponse : FX.OkL Tryd.prog fx_EndTxnResponse := ⟨⟨by kernel_rfl, rfl, trivial⟩, ⟨⟨by kernel_rfl, rfl, trivial⟩, ⟨⟨by kernel_rfl, rfl, trivial⟩, ⟨⟨by kernel_rfl, rfl, trivial⟩, trivial⟩⟩⟩⟩
theorem msg_EndTxnResponse : BehOk Tryd.prog F has ⟨29, 62, 63, 64, 65, 104, 66, 31, 30⟩ T_EndTxnResponse a_EndTxnResponse fx_EndTxnResponse 3 [.int .i16 0, .int .i32 0, .int .i16 0, .int .i64 0, .int .i16 0, .map none] 5 where
  mx := by kernel_rfl
  maxv := by kernel_rfl
  newp := by kernel_rfl
  setv := by kernel_rfl
  rf := by kernel_rfl
  rd := by kernel_rfl
  ap := by kernel_rfl
  beh := by kernel_rfl
  sm := by kernel_rfl
  fxs := fxok_EndTxnResponse
  cnt := by kernel_rfl
  dfl := ⟨[(3, .int .i64 (-1)), (4, .int .i16 (-1))], by kernel_rfl, dfOk_of (by kernel_rfl), rfl, rfl, fun _ => rfl⟩
  dfs := dfs_EndTxnResponse
  okT := by kernel_rfl
  okA := by kernel_rfl
  rt := by kernel_rfl
  size := by kernel_rfl
  sizef := by kernel_rfl
  most := by omega

end Go.Proofs.YtfpobhhgbmbeaaaDoor
