/-
  The message DescribeClusterRequest: its schemes, and that the program's functions are as the schemes say.
-/
import Derived.Test.YtfpobhhgbmbeaaaDoorL
namespace Go.Proofs.YtfpobhhgbmbeaaaDoor
open Go.Msk Go.Proofs
set_option maxRecDepth 100000

def T_DescribeClusterRequest : Top := ⟨none, (some 0), 86, 116, 117,
  (.prm .all none (.call 121) .bool (.bool false) (.prm (.ge 1) none (.call 122) .i8 (.int .i8 1) (.prm (.ge 2) none (.call 121) .bool (.bool false) (.tags 123))))⟩
def a_DescribeClusterRequest : ATop := ⟨some 0, (.prm .all false .bool ⟨88, none⟩ (.prm (.ge 1) false .i8 ⟨89, none⟩ (.prm (.ge 2) false .bool ⟨88, none⟩ (.tags 91 90 92))))⟩
def fx_DescribeClusterRequest : List FX := [.mk [(0, 0), (2, (-1)), (3, (-1)), (4, (-1))] none [], .mk [(0, 1), (1, 1), (2, (-1)), (3, (-1)), (4, (-1)), (5, 1)] none [], .mk [(0, 0), (1, 2), (2, (-1)), (3, (-1)), (4, (-1))] none []]
theorem dfs_DescribeClusterRequest : DfsOk Tryd.prog T_DescribeClusterRequest.sc.dfs := trivial
theorem fxok_DescribeClusterRequest : FX.OkL Tryd.prog fx_DescribeClusterRequest := ⟨⟨by kernel_rfl, rfl, trivial⟩, ⟨⟨by kernel_rfl, rfl, trivial⟩, ⟨⟨by kernel_rfl, rfl, trivial⟩, trivial⟩⟩⟩
theorem msg_DescribeClusterRequest : BehOk Tryd.prog F has ⟨17, 42, 43, 44, 45, 87, 46, 19, 18⟩ T_DescribeClusterRequest a_DescribeClusterRequest fx_DescribeClusterRequest 0 [.int .i16 0, .bool false, .int .i8 0, .bool false, .map none] 2 where
  mx := by kernel_rfl
  maxv := by kernel_rfl
  newp := by kernel_rfl
  setv := by kernel_rfl
  rf := by kernel_rfl
  rd := by kernel_rfl
  ap := by kernel_rfl
  beh := by kernel_rfl
  sm := by kernel_rfl
  fxs := fxok_DescribeClusterRequest
  cnt := by kernel_rfl
  dfl := ⟨[(2, .int .i8 1)], by kernel_rfl, dfOk_of (by kernel_rfl), rfl, rfl, fun _ => rfl⟩
  dfs := dfs_DescribeClusterRequest
  okT := by kernel_rfl
  okA := by kernel_rfl
  rt := by kernel_rfl
  size := by kernel_rfl
  sizef := by kernel_rfl
  most := by omega

end Go.Proofs.YtfpobhhgbmbeaaaDoor
