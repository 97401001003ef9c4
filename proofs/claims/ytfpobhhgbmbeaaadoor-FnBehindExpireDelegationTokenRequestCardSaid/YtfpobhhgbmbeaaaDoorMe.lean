/-
  The message ExpireDelegationTokenRequest: its schemes, and that the program's functions are as the schemes say.
-/
import Derived.Test.YtfpobhhgbmbeaaaDoorL
namespace Go.Proofs.YtfpobhhgbmbeaaaDoor
open Go.Msk Go.Proofs
set_option maxRecDepth 100000

def T_ExpireDelegationTokenRequest : Top := ⟨none, (some 2), 101, 116, 117,
  (.prm .all (some (.slice none 0 0)) (.flx (.call 131) (.call 132)) .byt .byt (.prm .all none (.call 128) .i64 (.int .i64 0) (.tags 123)))⟩
def a_ExpireDelegationTokenRequest : ATop := ⟨some 2, (.prm .all false .byt ⟨99, some 100⟩ (.prm .all false .i64 ⟨96, none⟩ (.tags 91 90 92)))⟩
def fx_ExpireDelegationTokenRequest : List FX := [.mk [(0, 9), (2, (-1)), (3, (-1)), (4, (-1))] none [], .mk [(0, 4), (2, (-1)), (3, (-1)), (4, (-1))] none []]
theorem dfs_ExpireDelegationTokenRequest : DfsOk Tryd.prog T_ExpireDelegationTokenRequest.sc.dfs := trivial
theorem fxok_ExpireDelegationTokenRequest : FX.OkL Tryd.prog fx_ExpireDelegationTokenRequest := ⟨⟨by kernel_rfl, rfl, trivial⟩, ⟨⟨by kernel_rfl, rfl, trivial⟩, trivial⟩⟩
theorem msg_ExpireDelegationTokenRequest : BehOk Tryd.prog F has ⟨26, 57, 58, 59, 60, 102, 61, 28, 27⟩ T_ExpireDelegationTokenRequest a_ExpireDelegationTokenRequest fx_ExpireDelegationTokenRequest 2 [.int .i16 0, .slice none 0 0, .int .i64 0, .map none] 2 where
  mx := by kernel_rfl
  maxv := by kernel_rfl
  newp := by kernel_rfl
  setv := by kernel_rfl
  rf := by kernel_rfl
  rd := by kernel_rfl
  ap := by kernel_rfl
  beh := by kernel_rfl
  sm := by kernel_rfl
  fxs := fxok_ExpireDelegationTokenRequest
  cnt := by kernel_rfl
  dfl := ⟨[], by kernel_rfl, dfOk_of (by kernel_rfl), rfl, rfl, fun _ => rfl⟩
  dfs := dfs_ExpireDelegationTokenRequest
  okT := by kernel_rfl
  okA := by kernel_rfl
  rt := by kernel_rfl
  size := by kernel_rfl
  sizef := by kernel_rfl
  most := by omega

end Go.Proofs.YtfpobhhgbmbeaaaDoor
