/-
  The message DescribeShareGroupOffsetsResponse: its schemes, and that the program's functions are as the schemes say.
-/
import Derived.Test.YthjbggibpkgmpaaGreatDoorL
namespace Go.Proofs.YthjbggibpkgmpaaGreatDoor
open Go.Msk Go.Proofs
set_option maxRecDepth 100000

def T_DescribeShareGroupOffsetsResponse : Top := ⟨none, (some 0), 162, 184, 185,
  (.prm .all none (.call 194) .i32 (.int .i32 0) (.lss .all (.flx (.call 182) (.call 183)) 64 [.string .empty, .slice none 0 0, .int .i16 0, .pointer none, .map none] 219 (.prm .all (some (.string .empty)) (.uns (.flx (.call 186) (.call 187)) (.flx (.call 188) (.call 189))) .str (.str []) (.lss .all (.flx (.call 182) (.call 183)) 64 [.string .empty, .int .u8 0, .int .u8 0, .int .u8 0, .int .u8 0, .int .u8 0, .int .u8 0, .int .u8 0, .int .u8 0, .int .u8 0, .int .u8 0, .int .u8 0, .int .u8 0, .int .u8 0, .int .u8 0, .int .u8 0, .int .u8 0, .slice none 0 0, .map none] 220 (.prm .all (some (.string .empty)) (.uns (.flx (.call 186) (.call 187)) (.flx (.call 188) (.call 189))) .str (.str []) (.uid .all 201 (.lss .all (.flx (.call 182) (.call 183)) 56 [.int .i32 0, .int .i64 0, .int .i32 0, .int .i64 0, .int .i16 0, .pointer none, .map none] 221 (.prm .all none (.call 194) .i32 (.int .i32 0) (.prm .all none (.call 222) .i64 (.int .i64 0) (.prm .all none (.call 194) .i32 (.int .i32 0) (.prm (.ge 1) none (.call 222) .i64 (.int .i64 (-1)) (.prm .all none (.call 195) .i16 (.int .i16 0) (.prm .all (some (.pointer none)) (.flx (.uns (.call 196) (.call 197)) (.uns (.call 198) (.call 199))) .nstr .nstr (.tags 190))))))) (.tags 190)))) (.prm .all none (.call 195) .i16 (.int .i16 0) (.prm .all (some (.pointer none)) (.flx (.uns (.call 196) (.call 197)) (.uns (.call 198) (.call 199))) .nstr .nstr (.tags 190))))) (.tags 190)))⟩
def a_DescribeShareGroupOffsetsResponse : ATop := ⟨some 0, (.prm .all false .i32 ⟨140, none⟩ (.lss .all false ⟨131, some 132⟩ 5 (.prm .all false .str ⟨133, some 134⟩ (.lss .all false ⟨131, some 132⟩ 19 (.prm .all false .str ⟨133, some 134⟩ (.uid .all 144 (.lss .all false ⟨131, some 132⟩ 7 (.prm .all false .i32 ⟨140, none⟩ (.prm .all false .i64 ⟨165, none⟩ (.prm .all false .i32 ⟨140, none⟩ (.prm (.ge 1) false .i64 ⟨165, none⟩ (.prm .all false .i16 ⟨141, none⟩ (.prm .all false .nstr ⟨142, some 143⟩ (.tags 136 135 137))))))) (.tags 136 135 137)))) (.prm .all false .i16 ⟨141, none⟩ (.prm .all false .nstr ⟨142, some 143⟩ (.tags 136 135 137))))) (.tags 136 135 137)))⟩
def fx_DescribeShareGroupOffsetsResponse : List FX := [.mk [(0, 3), (2, (-1)), (3, (-1)), (4, (-1))] none [], .mk [(0, 11), (2, (-1)), (3, (-1)), (4, (-1)), (6, 10)] (some 97) [.mk [(0, 8), (2, (-1)), (3, (-1)), (4, (-1))] none [], .mk [(0, 11), (2, (-1)), (3, (-1)), (4, (-1)), (6, 10)] (some 163) [.mk [(0, 8), (2, (-1)), (3, (-1)), (4, (-1))] none [], .mk [(0, 7), (2, (-1)), (3, (-1)), (4, (-1))] none [], .mk [(0, 11), (2, (-1)), (3, (-1)), (4, (-1)), (6, 10)] (some 218) [.mk [(0, 3), (2, (-1)), (3, (-1)), (4, (-1))] none [], .mk [(0, 4), (2, (-1)), (3, (-1)), (4, (-1))] none [], .mk [(0, 3), (2, (-1)), (3, (-1)), (4, (-1))] none [], .mk [(0, 4), (1, 1), (2, (-1)), (3, (-1)), (4, (-1)), (5, (-1))] none [], .mk [(0, 2), (2, (-1)), (3, (-1)), (4, (-1))] none [], .mk [(0, 8), (2, (-1)), (3, 0), (4, (-1))] none []]], .mk [(0, 2), (2, (-1)), (3, (-1)), (4, (-1))] none [], .mk [(0, 8), (2, (-1)), (3, 0), (4, (-1))] none []]]
theorem dfs_DescribeShareGroupOffsetsResponse : DfsOk Tryz.prog T_DescribeShareGroupOffsetsResponse.sc.dfs := ⟨df_call mixed (l := []) (by kernel_rfl) (dfOk_of (by kernel_rfl)) rfl, ⟨df_call mixed (l := []) (by kernel_rfl) (dfOk_of (by kernel_rfl)) rfl, ⟨df_call mixed (l := [(3, .int .i64 (-1))]) (by kernel_rfl) (dfOk_of (by kernel_rfl)) rfl, trivial⟩⟩⟩
theorem fxok_DescribeShareGroupOffsetsResponse : FX.OkL Tryz.prog fx_DescribeShareGroupOffsetsResponse := ⟨⟨by kernel_rfl, rfl, trivial⟩, ⟨⟨by kernel_rfl, (by show _ = _; kernel_rfl), ⟨⟨by kernel_rfl, rfl, trivial⟩, ⟨⟨by kernel_rfl, (by show _ = _; kernel_rfl), ⟨⟨by kernel_rfl, rfl, trivial⟩, ⟨⟨by kernel_rfl, rfl, trivial⟩, ⟨⟨by kernel_rfl, (by show _ = _; kernel_rfl), ⟨⟨by kernel_rfl, rfl, trivial⟩, ⟨⟨by kernel_rfl, rfl, trivial⟩, ⟨⟨by kernel_rfl, rfl, trivial⟩, ⟨⟨by kernel_rfl, rfl, trivial⟩, ⟨⟨by kernel_rfl, rfl, trivial⟩, ⟨⟨by kernel_rfl, rfl, trivial⟩, trivial⟩⟩⟩⟩⟩⟩⟩, trivial⟩⟩⟩⟩, ⟨⟨by kernel_rfl, rfl, trivial⟩, ⟨⟨by kernel_rfl, rfl, trivial⟩, trivial⟩⟩⟩⟩⟩, trivial⟩⟩
theorem msg_DescribeShareGroupOffsetsResponse : BehOk Tryz.prog F has ⟨39, 95, 96, 98, 99, 164, 100, 41, 40⟩ T_DescribeShareGroupOffsetsResponse a_DescribeShareGroupOffsetsResponse fx_DescribeShareGroupOffsetsResponse 0 [.int .i16 0, .int .i32 0, .slice none 0 0, .map none] 1 where
  mx := by kernel_rfl
  maxv := by kernel_rfl
  newp := by kernel_rfl
  setv := by kernel_rfl
  rf := by kernel_rfl
  rd := by kernel_rfl
  ap := by kernel_rfl
  beh := by kernel_rfl
  sm := by kernel_rfl
  fxs := fxok_DescribeShareGroupOffsetsResponse
  cnt := by kernel_rfl
  dfl := ⟨[], by kernel_rfl, dfOk_of (by kernel_rfl), rfl, rfl, fun _ => rfl⟩
  dfs := dfs_DescribeShareGroupOffsetsResponse
  okT := by kernel_rfl
  okA := by kernel_rfl
  rt := by kernel_rfl
  most := by omega

end Go.Proofs.YthjbggibpkgmpaaGreatDoor
