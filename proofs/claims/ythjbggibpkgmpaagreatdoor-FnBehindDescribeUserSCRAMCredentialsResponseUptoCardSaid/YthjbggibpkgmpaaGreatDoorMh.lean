/-
  The message DescribeUserSCRAMCredentialsResponse: its schemes, and that the program's functions are as the schemes say.
-/
import Derived.Test.YthjbggibpkgmpaaGreatDoorL
namespace Go.Proofs.YthjbggibpkgmpaaGreatDoor
open Go.Msk Go.Proofs
set_option maxRecDepth 100000

def T_DescribeUserSCRAMCredentialsResponse : Top := ⟨none, (some 0), 147, 184, 185,
  (.prm .all none (.call 194) .i32 (.int .i32 0) (.prm .all none (.call 195) .i16 (.int .i16 0) (.prm .all (some (.pointer none)) (.flx (.uns (.call 196) (.call 197)) (.uns (.call 198) (.call 199))) .nstr .nstr (.lss .all (.flx (.call 182) (.call 183)) 64 [.string .empty, .int .i16 0, .pointer none, .slice none 0 0, .map none] 204 (.prm .all (some (.string .empty)) (.uns (.flx (.call 186) (.call 187)) (.flx (.call 188) (.call 189))) .str (.str []) (.prm .all none (.call 195) .i16 (.int .i16 0) (.prm .all (some (.pointer none)) (.flx (.uns (.call 196) (.call 197)) (.uns (.call 198) (.call 199))) .nstr .nstr (.lss .all (.flx (.call 182) (.call 183)) 16 [.int .i8 0, .int .i32 0, .map none] 205 (.prm .all none (.call 206) .i8 (.int .i8 0) (.prm .all none (.call 194) .i32 (.int .i32 0) (.tags 190))) (.tags 190))))) (.tags 190)))))⟩
def a_DescribeUserSCRAMCredentialsResponse : ATop := ⟨some 0, (.prm .all false .i32 ⟨140, none⟩ (.prm .all false .i16 ⟨141, none⟩ (.prm .all false .nstr ⟨142, some 143⟩ (.lss .all false ⟨131, some 132⟩ 5 (.prm .all false .str ⟨133, some 134⟩ (.prm .all false .i16 ⟨141, none⟩ (.prm .all false .nstr ⟨142, some 143⟩ (.lss .all false ⟨131, some 132⟩ 3 (.prm .all false .i8 ⟨150, none⟩ (.prm .all false .i32 ⟨140, none⟩ (.tags 136 135 137))) (.tags 136 135 137))))) (.tags 136 135 137)))))⟩
def fx_DescribeUserSCRAMCredentialsResponse : List FX := [.mk [(0, 3), (2, (-1)), (3, (-1)), (4, (-1))] none [], .mk [(0, 2), (2, (-1)), (3, (-1)), (4, (-1))] none [], .mk [(0, 8), (2, (-1)), (3, 0), (4, (-1))] none [], .mk [(0, 11), (2, (-1)), (3, (-1)), (4, (-1)), (6, 10)] (some 72) [.mk [(0, 8), (2, (-1)), (3, (-1)), (4, (-1))] none [], .mk [(0, 2), (2, (-1)), (3, (-1)), (4, (-1))] none [], .mk [(0, 8), (2, (-1)), (3, 0), (4, (-1))] none [], .mk [(0, 11), (2, (-1)), (3, (-1)), (4, (-1)), (6, 10)] (some 148) [.mk [(0, 1), (2, (-1)), (3, (-1)), (4, (-1))] none [], .mk [(0, 3), (2, (-1)), (3, (-1)), (4, (-1))] none []]]]
theorem dfs_DescribeUserSCRAMCredentialsResponse : DfsOk Tryz.prog T_DescribeUserSCRAMCredentialsResponse.sc.dfs := ⟨df_call mixed (l := []) (by kernel_rfl) (dfOk_of (by kernel_rfl)) rfl, ⟨df_call mixed (l := []) (by kernel_rfl) (dfOk_of (by kernel_rfl)) rfl, trivial⟩⟩
theorem fxok_DescribeUserSCRAMCredentialsResponse : FX.OkL Tryz.prog fx_DescribeUserSCRAMCredentialsResponse := ⟨⟨by kernel_rfl, rfl, trivial⟩, ⟨⟨by kernel_rfl, rfl, trivial⟩, ⟨⟨by kernel_rfl, rfl, trivial⟩, ⟨⟨by kernel_rfl, (by show _ = _; kernel_rfl), ⟨⟨by kernel_rfl, rfl, trivial⟩, ⟨⟨by kernel_rfl, rfl, trivial⟩, ⟨⟨by kernel_rfl, rfl, trivial⟩, ⟨⟨by kernel_rfl, (by show _ = _; kernel_rfl), ⟨⟨by kernel_rfl, rfl, trivial⟩, ⟨⟨by kernel_rfl, rfl, trivial⟩, trivial⟩⟩⟩, trivial⟩⟩⟩⟩⟩, trivial⟩⟩⟩⟩
theorem msg_DescribeUserSCRAMCredentialsResponse : BehOk Tryz.prog F has ⟨27, 70, 71, 73, 74, 149, 75, 29, 28⟩ T_DescribeUserSCRAMCredentialsResponse a_DescribeUserSCRAMCredentialsResponse fx_DescribeUserSCRAMCredentialsResponse 0 [.int .i16 0, .int .i32 0, .int .i16 0, .pointer none, .slice none 0 0, .map none] 0 where
  mx := by kernel_rfl
  maxv := by kernel_rfl
  newp := by kernel_rfl
  setv := by kernel_rfl
  rf := by kernel_rfl
  rd := by kernel_rfl
  ap := by kernel_rfl
  beh := by kernel_rfl
  sm := by kernel_rfl
  fxs := fxok_DescribeUserSCRAMCredentialsResponse
  cnt := by kernel_rfl
  dfl := ⟨[], by kernel_rfl, dfOk_of (by kernel_rfl), rfl, rfl, fun _ => rfl⟩
  dfs := dfs_DescribeUserSCRAMCredentialsResponse
  okT := by kernel_rfl
  okA := by kernel_rfl
  rt := by kernel_rfl
  most := by omega

end Go.Proofs.YthjbggibpkgmpaaGreatDoor
