/-
  The message SASLHandshakeResponse: its schemes, and that the program's functions are as the schemes say.
-/
import Derived.Test.YtfpobhhgbmbeaaaDoorL
namespace Go.Proofs.YtfpobhhgbmbeaaaDoor
open Go.Msk Go.Proofs
set_option maxRecDepth 100000

def T_SASLHandshakeResponse : Top := ⟨none, none, 73, 116, 117,
  (.prm .all none (.call 114) .i16 (.int .i16 0) (.lsp .all (.call 115) 16 (.str []) (some (.string .empty)) (.uns (.call 118) (.call 119)) .str .nil))⟩
def a_SASLHandshakeResponse : ATop := ⟨none, (.prm .all false .i16 ⟨83, none⟩ (.lsp .all false ⟨84, none⟩ .str ⟨85, none⟩ .nil))⟩
def fx_SASLHandshakeResponse : List FX := [.mk [(0, 2), (2, (-1)), (3, (-1)), (4, (-1))] none [], .mk [(0, 11), (2, (-1)), (3, (-1)), (4, (-1)), (6, 8)] none []]
theorem dfs_SASLHandshakeResponse : DfsOk Tryd.prog T_SASLHandshakeResponse.sc.dfs := trivial
theorem fxok_SASLHandshakeResponse : FX.OkL Tryd.prog fx_SASLHandshakeResponse := ⟨⟨by kernel_rfl, rfl, trivial⟩, ⟨⟨by kernel_rfl, rfl, trivial⟩, trivial⟩⟩
theorem msg_SASLHandshakeResponse : BehOk Tryd.prog F has ⟨11, 36, 37, 39, 40, 82, 41, 15, 12⟩ T_SASLHandshakeResponse a_SASLHandshakeResponse fx_SASLHandshakeResponse (-1) [.int .i16 0, .int .i16 0, .slice none 0 0] 1 where
  mx := by kernel_rfl
  maxv := by kernel_rfl
  newp := by kernel_rfl
  setv := by kernel_rfl
  rf := by kernel_rfl
  rd := by kernel_rfl
  ap := by kernel_rfl
  beh := by kernel_rfl
  sm := by kernel_rfl
  fxs := fxok_SASLHandshakeResponse
  cnt := by kernel_rfl
  dfl := ⟨[], by kernel_rfl, dfOk_of (by kernel_rfl), rfl, rfl, fun _ => rfl⟩
  dfs := dfs_SASLHandshakeResponse
  okT := by kernel_rfl
  okA := by kernel_rfl
  rt := by kernel_rfl
  size := by kernel_rfl
  sizef := by kernel_rfl
  most := by omega

end Go.Proofs.YtfpobhhgbmbeaaaDoor
