/-
  The message DescribeConfigsResponse: its schemes, and that the program's functions are as the schemes say.
-/
import Derived.Test.YtkceiijlnaakjaaGreatDoorL
namespace Go.Proofs.YtkceiijlnaakjaaGreatDoor
open Go.Msk Go.Proofs
set_option maxRecDepth 100000

def T_DescribeConfigsResponse : Top := ⟨none, (some 4), 99, 107, 108,
  (.prm .all none (.call 104) .i32 (.int .i32 0) (.lss .all (.flx (.call 105) (.call 106)) 72 [.int .i16 0, .pointer none, .int .i8 0, .string .empty, .slice none 0 0, .map none] 146 (.prm .all none (.call 114) .i16 (.int .i16 0) (.prm .all (some (.pointer none)) (.flx (.uns (.call 115) (.call 116)) (.uns (.call 117) (.call 118))) .nstr .nstr (.enm .all (.int .i8 0) (.call 142) .i8 (.int .i8 0) (.prm .all (some (.string .empty)) (.uns (.flx (.call 110) (.call 111)) (.flx (.call 112) (.call 113))) .str (.str []) (.lss .all (.flx (.call 105) (.call 106)) 80 [.string .empty, .pointer none, .bool false, .bool false, .int .i8 0, .bool false, .slice none 0 0, .int .i8 0, .pointer none, .map none] 147 (.prm .all (some (.string .empty)) (.uns (.flx (.call 110) (.call 111)) (.flx (.call 112) (.call 113))) .str (.str []) (.prm .all (some (.pointer none)) (.flx (.uns (.call 115) (.call 116)) (.uns (.call 117) (.call 118))) .nstr .nstr (.prm .all none (.call 148) .bool (.bool false) (.prm (.rng 0 0) none (.call 148) .bool (.bool false) (.enm (.ge 1) (.int .i8 0) (.call 142) .i8 (.int .i8 (-1)) (.prm .all none (.call 148) .bool (.bool false) (.lss (.ge 1) (.flx (.call 105) (.call 106)) 40 [.string .empty, .pointer none, .int .i8 0, .map none] 149 (.prm .all (some (.string .empty)) (.uns (.flx (.call 110) (.call 111)) (.flx (.call 112) (.call 113))) .str (.str []) (.prm .all (some (.pointer none)) (.flx (.uns (.call 115) (.call 116)) (.uns (.call 117) (.call 118))) .nstr .nstr (.enm .all (.int .i8 0) (.call 142) .i8 (.int .i8 0) (.tags 119)))) (.enm (.ge 3) (.int .i8 0) (.call 142) .i8 (.int .i8 0) (.prm (.ge 3) (some (.pointer none)) (.flx (.uns (.call 115) (.call 116)) (.uns (.call 117) (.call 118))) .nstr .nstr (.tags 119)))))))))) (.tags 119)))))) (.tags 119)))⟩
def tl_DescribeConfigsResponse : Tl := (.fld (.num true) (.lst (.tell 102) 6 (.fld (.num true) (.fld (.txt 120) (.fld (.num true) (.fld .str (.lst (.tell 150) 10 (.fld .str (.fld (.txt 120) (.fld (.boo 169) (.fld (.boo 169) (.fld (.num true) (.fld (.boo 169) (.lst (.tell 170) 4 (.fld .str (.fld (.txt 120) (.fld (.num true) (.tags 195 73 75)))) (.fld (.num true) (.fld (.txt 120) (.tags 171 73 75)))))))))) (.tags 151 73 75)))))) (.tags 103 73 75)))
def fx_DescribeConfigsResponse : List FX := [.mk [(0, 3), (2, (-1)), (3, (-1)), (4, (-1))] none [], .mk [(0, 11), (2, (-1)), (3, (-1)), (4, (-1)), (6, 10)] (some 65) [.mk [(0, 2), (2, (-1)), (3, (-1)), (4, (-1))] none [], .mk [(0, 8), (2, (-1)), (3, 0), (4, (-1))] none [], .mk [(0, 1), (2, (-1)), (3, (-1)), (4, (-1))] none [], .mk [(0, 8), (2, (-1)), (3, (-1)), (4, (-1))] none [], .mk [(0, 11), (2, (-1)), (3, (-1)), (4, (-1)), (6, 10)] (some 100) [.mk [(0, 8), (2, (-1)), (3, (-1)), (4, (-1))] none [], .mk [(0, 8), (2, (-1)), (3, 0), (4, (-1))] none [], .mk [(0, 0), (2, (-1)), (3, (-1)), (4, (-1))] none [], .mk [(0, 0), (2, 0), (3, (-1)), (4, (-1))] none [], .mk [(0, 1), (1, 1), (2, (-1)), (3, (-1)), (4, (-1)), (5, (-1))] none [], .mk [(0, 0), (2, (-1)), (3, (-1)), (4, (-1))] none [], .mk [(0, 11), (1, 1), (2, (-1)), (3, (-1)), (4, (-1)), (6, 10)] (some 145) [.mk [(0, 8), (2, (-1)), (3, (-1)), (4, (-1))] none [], .mk [(0, 8), (2, (-1)), (3, 0), (4, (-1))] none [], .mk [(0, 1), (2, (-1)), (3, (-1)), (4, (-1))] none []], .mk [(0, 1), (1, 3), (2, (-1)), (3, (-1)), (4, (-1))] none [], .mk [(0, 8), (1, 3), (2, (-1)), (3, 3), (4, (-1))] none []]]]
theorem dfs_DescribeConfigsResponse : DfsOk Tryz.prog T_DescribeConfigsResponse.sc.dfs := ⟨df_call mixed (l := []) (by kernel_rfl) (dfOk_of (by kernel_rfl)) rfl, ⟨df_call mixed (l := [(4, .int .i8 (-1))]) (by kernel_rfl) (dfOk_of (by kernel_rfl)) rfl, ⟨df_call mixed (l := []) (by kernel_rfl) (dfOk_of (by kernel_rfl)) rfl, trivial⟩⟩⟩
theorem subs_DescribeConfigsResponse : SubsOk Tryz.prog tl_DescribeConfigsResponse.subs := ⟨by kernel_rfl, ⟨by kernel_rfl, ⟨by kernel_rfl, trivial⟩⟩⟩
theorem cbs_DescribeConfigsResponse : CbsOk Tryz.prog tl_DescribeConfigsResponse.cbs := ⟨⟨by kernel_rfl, by kernel_rfl⟩, ⟨⟨by kernel_rfl, by kernel_rfl⟩, ⟨⟨by kernel_rfl, by kernel_rfl⟩, ⟨⟨by kernel_rfl, by kernel_rfl⟩, trivial⟩⟩⟩⟩
theorem fxok_DescribeConfigsResponse : FX.OkL Tryz.prog fx_DescribeConfigsResponse := ⟨⟨by kernel_rfl, rfl, trivial⟩, ⟨⟨by kernel_rfl, (by show _ = _; kernel_rfl), ⟨⟨by kernel_rfl, rfl, trivial⟩, ⟨⟨by kernel_rfl, rfl, trivial⟩, ⟨⟨by kernel_rfl, rfl, trivial⟩, ⟨⟨by kernel_rfl, rfl, trivial⟩, ⟨⟨by kernel_rfl, (by show _ = _; kernel_rfl), ⟨⟨by kernel_rfl, rfl, trivial⟩, ⟨⟨by kernel_rfl, rfl, trivial⟩, ⟨⟨by kernel_rfl, rfl, trivial⟩, ⟨⟨by kernel_rfl, rfl, trivial⟩, ⟨⟨by kernel_rfl, rfl, trivial⟩, ⟨⟨by kernel_rfl, rfl, trivial⟩, ⟨⟨by kernel_rfl, (by show _ = _; kernel_rfl), ⟨⟨by kernel_rfl, rfl, trivial⟩, ⟨⟨by kernel_rfl, rfl, trivial⟩, ⟨⟨by kernel_rfl, rfl, trivial⟩, trivial⟩⟩⟩⟩, ⟨⟨by kernel_rfl, rfl, trivial⟩, ⟨⟨by kernel_rfl, rfl, trivial⟩, trivial⟩⟩⟩⟩⟩⟩⟩⟩⟩⟩, trivial⟩⟩⟩⟩⟩⟩, trivial⟩⟩
theorem msg_DescribeConfigsResponse : TellOk Tryz.prog F has ⟨26, 63, 64, 66, 67, 101, 68, 28, 27⟩ T_DescribeConfigsResponse tl_DescribeConfigsResponse fx_DescribeConfigsResponse 4 [.int .i16 0, .int .i32 0, .slice none 0 0, .map none] 4 where
  mx := by kernel_rfl
  maxv := by kernel_rfl
  newp := by kernel_rfl
  setv := by kernel_rfl
  rf := by kernel_rfl
  rd := by kernel_rfl
  tell := by kernel_rfl
  door := by kernel_rfl
  sm := by kernel_rfl
  fxs := fxok_DescribeConfigsResponse
  cnt := by kernel_rfl
  dfl := ⟨[], by kernel_rfl, dfOk_of (by kernel_rfl), rfl, rfl, fun _ => rfl⟩
  dfs := dfs_DescribeConfigsResponse
  okT := by kernel_rfl
  okL := by kernel_rfl
  subs := subs_DescribeConfigsResponse
  cbs := cbs_DescribeConfigsResponse
  fits := by kernel_rfl
  small := by kernel_rfl
  len := of_decide_eq_true (by kernel_rfl)
  tlen := of_decide_eq_true (by kernel_rfl)
  rv := by kernel_rfl
  told := by kernel_rfl
  most := by omega

end Go.Proofs.YtkceiijlnaakjaaGreatDoor
