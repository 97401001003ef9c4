/-
  The message AllocateProducerIDsRequest: its schemes, and that the program's functions are as the schemes say.
-/
import Derived.Test.YtfpobhhgbmbeaaaDoorL
namespace Go.Proofs.YtfpobhhgbmbeaaaDoor
open Go.Msk Go.Proofs
set_option maxRecDepth 100000

def T_AllocateProducerIDsRequest : Top := ⟨none, (some 0), 93, 116, 117,
  (.prm .all none (.call 127) .i32 (.int .i32 0) (.prm .all none (.call 128) .i64 (.int .i64 (-1)) (.tags 123)))⟩
def a_AllocateProducerIDsRequest : ATop := ⟨some 0, (.prm .all false .i32 ⟨95, none⟩ (.prm .all false .i64 ⟨96, none⟩ (.tags 91 90 92)))⟩
def fx_AllocateProducerIDsRequest : List FX := [.mk [(0, 3), (2, (-1)), (3, (-1)), (4, (-1))] none [], .mk [(0, 4), (2, (-1)), (3, (-1)), (4, (-1)), (5, (-1))] none []]
theorem dfs_AllocateProducerIDsRequest : DfsOk Tryd.prog T_AllocateProducerIDsRequest.sc.dfs := trivial
theorem fxok_AllocateProducerIDsRequest : FX.OkL Tryd.prog fx_AllocateProducerIDsRequest := ⟨⟨by kernel_rfl, rfl, trivial⟩, ⟨⟨by kernel_rfl, rfl, trivial⟩, trivial⟩⟩
theorem msg_AllocateProducerIDsRequest : BehOk Tryd.prog F has ⟨20, 47, 48, 49, 50, 94, 51, 22, 21⟩ T_AllocateProducerIDsRequest a_AllocateProducerIDsRequest fx_AllocateProducerIDsRequest 0 [.int .i16 0, .int .i32 0, .int .i64 0, .map none] 0 where
  mx := by kernel_rfl
  maxv := by kernel_rfl
  newp := by kernel_rfl
  setv := by kernel_rfl
  rf := by kernel_rfl
  rd := by kernel_rfl
  ap := by kernel_rfl
  beh := by kernel_rfl
  sm := by kernel_rfl
  fxs := fxok_AllocateProducerIDsRequest
  cnt := by kernel_rfl
  dfl := ⟨[(2, .int .i64 (-1))], by kernel_rfl, dfOk_of (by kernel_rfl), rfl, rfl, fun _ => rfl⟩
  dfs := dfs_AllocateProducerIDsRequest
  okT := by kernel_rfl
  okA := by kernel_rfl
  rt := by kernel_rfl
  size := by kernel_rfl
  sizef := by kernel_rfl
  most := by omega

end Go.Proofs.YtfpobhhgbmbeaaaDoor
