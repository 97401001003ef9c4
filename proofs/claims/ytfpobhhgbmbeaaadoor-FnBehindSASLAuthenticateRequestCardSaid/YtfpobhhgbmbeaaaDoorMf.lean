/-
  The message SASLAuthenticateRequest: its schemes, and that the program's functions are as the schemes say.
-/
import Derived.Test.YtfpobhhgbmbeaaaDoorL
namespace Go.Proofs.YtfpobhhgbmbeaaaDoor
open Go.Msk Go.Proofs
set_option maxRecDepth 100000

def T_SASLAuthenticateRequest : Top := ⟨none, (some 2), 97, 116, 117,
  (.prm .all (some (.slice none 0 0)) (.flx (.call 131) (.call 132)) .byt .byt (.tags 123))⟩
def a_SASLAuthenticateRequest : ATop := ⟨some 2, (.prm .all false .byt ⟨99, some 100⟩ (.tags 91 90 92))⟩
def fx_SASLAuthenticateRequest : List FX := [.mk [(0, 9), (2, (-1)), (3, (-1)), (4, (-1))] none []]
theorem dfs_SASLAuthenticateRequest : DfsOk Tryd.prog T_SASLAuthenticateRequest.sc.dfs := trivial
theorem fxok_SASLAuthenticateRequest : FX.OkL Tryd.prog fx_SASLAuthenticateRequest := ⟨⟨by kernel_rfl, rfl, trivial⟩, trivial⟩
theorem msg_SASLAuthenticateRequest : BehOk Tryd.prog F has ⟨23, 52, 53, 54, 55, 98, 56, 25, 24⟩ T_SASLAuthenticateRequest a_SASLAuthenticateRequest fx_SASLAuthenticateRequest 2 [.int .i16 0, .slice none 0 0, .map none] 2 where
  mx := by kernel_rfl
  maxv := by kernel_rfl
  newp := by kernel_rfl
  setv := by kernel_rfl
  rf := by kernel_rfl
  rd := by kernel_rfl
  ap := by kernel_rfl
  beh := by kernel_rfl
  sm := by kernel_rfl
  fxs := fxok_SASLAuthenticateRequest
  cnt := by kernel_rfl
  dfl := ⟨[], by kernel_rfl, dfOk_of (by kernel_rfl), rfl, rfl, fun _ => rfl⟩
  dfs := dfs_SASLAuthenticateRequest
  okT := by kernel_rfl
  okA := by kernel_rfl
  rt := by kernel_rfl
  size := by kernel_rfl
  sizef := by kernel_rfl
  most := by omega

end Go.Proofs.YtfpobhhgbmbeaaaDoor
