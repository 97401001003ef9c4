/-
  The message DescribeQuorumRequest: its schemes, and that the program's functions are as the schemes say.
-/
import Derived.Test.YthjbggibpkgmpaaGreatDoorL
namespace Go.Proofs.YthjbggibpkgmpaaGreatDoor
open Go.Msk Go.Proofs
set_option maxRecDepth 100000

def T_DescribeQuorumRequest : Top := ⟨none, (some 0), 170, 184, 185,
  (.lss .all (.flx (.call 182) (.call 183)) 48 [.string .empty, .slice none 0 0, .map none] 230 (.prm .all (some (.string .empty)) (.uns (.flx (.call 186) (.call 187)) (.flx (.call 188) (.call 189))) .str (.str []) (.lss .all (.flx (.call 182) (.call 183)) 16 [.int .i32 0, .map none] 231 (.prm .all none (.call 194) .i32 (.int .i32 0) (.tags 190)) (.tags 190))) (.tags 190))⟩
def a_DescribeQuorumRequest : ATop := ⟨some 0, (.lss .all false ⟨131, some 132⟩ 3 (.prm .all false .str ⟨133, some 134⟩ (.lss .all false ⟨131, some 132⟩ 2 (.prm .all false .i32 ⟨140, none⟩ (.tags 136 135 137)) (.tags 136 135 137))) (.tags 136 135 137))⟩
def fx_DescribeQuorumRequest : List FX := [.mk [(0, 11), (2, (-1)), (3, (-1)), (4, (-1)), (6, 10)] (some 110) [.mk [(0, 8), (2, (-1)), (3, (-1)), (4, (-1))] none [], .mk [(0, 11), (2, (-1)), (3, (-1)), (4, (-1)), (6, 10)] (some 171) [.mk [(0, 3), (2, (-1)), (3, (-1)), (4, (-1))] none []]]]
theorem dfs_DescribeQuorumRequest : DfsOk Tryz.prog T_DescribeQuorumRequest.sc.dfs := ⟨df_call mixed (l := []) (by kernel_rfl) (dfOk_of (by kernel_rfl)) rfl, ⟨df_call mixed (l := []) (by kernel_rfl) (dfOk_of (by kernel_rfl)) rfl, trivial⟩⟩
theorem fxok_DescribeQuorumRequest : FX.OkL Tryz.prog fx_DescribeQuorumRequest := ⟨⟨by kernel_rfl, (by show _ = _; kernel_rfl), ⟨⟨by kernel_rfl, rfl, trivial⟩, ⟨⟨by kernel_rfl, (by show _ = _; kernel_rfl), ⟨⟨by kernel_rfl, rfl, trivial⟩, trivial⟩⟩, trivial⟩⟩⟩, trivial⟩
theorem msg_DescribeQuorumRequest : BehOk Tryz.prog F has ⟨45, 108, 109, 111, 112, 172, 113, 47, 46⟩ T_DescribeQuorumRequest a_DescribeQuorumRequest fx_DescribeQuorumRequest 0 [.int .i16 0, .slice none 0 0, .map none] 2 where
  mx := by kernel_rfl
  maxv := by kernel_rfl
  newp := by kernel_rfl
  setv := by kernel_rfl
  rf := by kernel_rfl
  rd := by kernel_rfl
  ap := by kernel_rfl
  beh := by kernel_rfl
  sm := by kernel_rfl
  fxs := fxok_DescribeQuorumRequest
  cnt := by kernel_rfl
  dfl := ⟨[], by kernel_rfl, dfOk_of (by kernel_rfl), rfl, rfl, fun _ => rfl⟩
  dfs := dfs_DescribeQuorumRequest
  okT := by kernel_rfl
  okA := by kernel_rfl
  rt := by kernel_rfl
  most := by omega

end Go.Proofs.YthjbggibpkgmpaaGreatDoor
