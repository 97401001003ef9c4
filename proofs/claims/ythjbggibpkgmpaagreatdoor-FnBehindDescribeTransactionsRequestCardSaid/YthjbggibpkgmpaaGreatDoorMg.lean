/-
  The message DescribeTransactionsRequest: its schemes, and that the program's functions are as the schemes say.
-/
import Derived.Test.YthjbggibpkgmpaaGreatDoorL
namespace Go.Proofs.YthjbggibpkgmpaaGreatDoor
open Go.Msk Go.Proofs
set_option maxRecDepth 100000

def T_DescribeTransactionsRequest : Top := ⟨none, (some 0), 121, 184, 185,
  (.lsp .all (.flx (.call 182) (.call 183)) 16 (.str []) (some (.string .empty)) (.uns (.flx (.call 186) (.call 187)) (.flx (.call 188) (.call 189))) .str (.tags 190))⟩
def a_DescribeTransactionsRequest : ATop := ⟨some 0, (.lsp .all false ⟨131, some 132⟩ .str ⟨133, some 134⟩ (.tags 136 135 137))⟩
def fx_DescribeTransactionsRequest : List FX := [.mk [(0, 11), (2, (-1)), (3, (-1)), (4, (-1)), (6, 8)] none []]
theorem dfs_DescribeTransactionsRequest : DfsOk Tryz.prog T_DescribeTransactionsRequest.sc.dfs := trivial
theorem fxok_DescribeTransactionsRequest : FX.OkL Tryz.prog fx_DescribeTransactionsRequest := ⟨⟨by kernel_rfl, rfl, trivial⟩, trivial⟩
theorem msg_DescribeTransactionsRequest : BehOk Tryz.prog F has ⟨15, 52, 53, 55, 56, 130, 57, 19, 16⟩ T_DescribeTransactionsRequest a_DescribeTransactionsRequest fx_DescribeTransactionsRequest 0 [.int .i16 0, .slice none 0 0, .map none] 0 where
  mx := by kernel_rfl
  maxv := by kernel_rfl
  newp := by kernel_rfl
  setv := by kernel_rfl
  rf := by kernel_rfl
  rd := by kernel_rfl
  ap := by kernel_rfl
  beh := by kernel_rfl
  sm := by kernel_rfl
  fxs := fxok_DescribeTransactionsRequest
  cnt := by kernel_rfl
  dfl := ⟨[], by kernel_rfl, dfOk_of (by kernel_rfl), rfl, rfl, fun _ => rfl⟩
  dfs := dfs_DescribeTransactionsRequest
  okT := by kernel_rfl
  okA := by kernel_rfl
  rt := by kernel_rfl
  most := by omega

end Go.Proofs.YthjbggibpkgmpaaGreatDoor
