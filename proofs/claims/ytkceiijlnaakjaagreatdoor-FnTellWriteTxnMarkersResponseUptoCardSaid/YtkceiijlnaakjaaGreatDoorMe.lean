/-
  The message WriteTxnMarkersResponse: its schemes, and that the program's functions are as the schemes say.
-/
import Derived.Test.YtkceiijlnaakjaaGreatDoorL
namespace Go.Proofs.YtkceiijlnaakjaaGreatDoor
open Go.Msk Go.Proofs
set_option maxRecDepth 100000

def T_WriteTxnMarkersResponse : Top := ⟨none, (some 1), 89, 107, 108,
  (.lss .all (.flx (.call 105) (.call 106)) 40 [.int .i64 0, .slice none 0 0, .map none] 132 (.prm .all none (.call 128) .i64 (.int .i64 0) (.lss .all (.flx (.call 105) (.call 106)) 48 [.string .empty, .slice none 0 0, .map none] 133 (.prm .all (some (.string .empty)) (.uns (.flx (.call 110) (.call 111)) (.flx (.call 112) (.call 113))) .str (.str []) (.lss .all (.flx (.call 105) (.call 106)) 16 [.int .i32 0, .int .i16 0, .map none] 134 (.prm .all none (.call 104) .i32 (.int .i32 0) (.prm .all none (.call 114) .i16 (.int .i16 0) (.tags 119))) (.tags 119))) (.tags 119))) (.tags 119))⟩
def tl_WriteTxnMarkersResponse : Tl := (.lst (.tell 92) 3 (.fld (.num false) (.lst (.tell 135) 3 (.fld .str (.lst (.tell 165) 3 (.fld (.num true) (.fld (.num true) (.tags 193 73 75))) (.tags 166 73 75))) (.tags 136 73 75))) (.tags 93 73 75))
def fx_WriteTxnMarkersResponse : List FX := [.mk [(0, 11), (2, (-1)), (3, (-1)), (4, (-1)), (6, 10)] (some 53) [.mk [(0, 4), (2, (-1)), (3, (-1)), (4, (-1))] none [], .mk [(0, 11), (2, (-1)), (3, (-1)), (4, (-1)), (6, 10)] (some 90) [.mk [(0, 8), (2, (-1)), (3, (-1)), (4, (-1))] none [], .mk [(0, 11), (2, (-1)), (3, (-1)), (4, (-1)), (6, 10)] (some 131) [.mk [(0, 3), (2, (-1)), (3, (-1)), (4, (-1))] none [], .mk [(0, 2), (2, (-1)), (3, (-1)), (4, (-1))] none []]]]]
theorem dfs_WriteTxnMarkersResponse : DfsOk Tryz.prog T_WriteTxnMarkersResponse.sc.dfs := ⟨df_call mixed (l := []) (by kernel_rfl) (dfOk_of (by kernel_rfl)) rfl, ⟨df_call mixed (l := []) (by kernel_rfl) (dfOk_of (by kernel_rfl)) rfl, ⟨df_call mixed (l := []) (by kernel_rfl) (dfOk_of (by kernel_rfl)) rfl, trivial⟩⟩⟩
theorem subs_WriteTxnMarkersResponse : SubsOk Tryz.prog tl_WriteTxnMarkersResponse.subs := ⟨by kernel_rfl, ⟨by kernel_rfl, ⟨by kernel_rfl, trivial⟩⟩⟩
theorem cbs_WriteTxnMarkersResponse : CbsOk Tryz.prog tl_WriteTxnMarkersResponse.cbs := ⟨⟨by kernel_rfl, by kernel_rfl⟩, ⟨⟨by kernel_rfl, by kernel_rfl⟩, ⟨⟨by kernel_rfl, by kernel_rfl⟩, ⟨⟨by kernel_rfl, by kernel_rfl⟩, trivial⟩⟩⟩⟩
theorem fxok_WriteTxnMarkersResponse : FX.OkL Tryz.prog fx_WriteTxnMarkersResponse := ⟨⟨by kernel_rfl, (by show _ = _; kernel_rfl), ⟨⟨by kernel_rfl, rfl, trivial⟩, ⟨⟨by kernel_rfl, (by show _ = _; kernel_rfl), ⟨⟨by kernel_rfl, rfl, trivial⟩, ⟨⟨by kernel_rfl, (by show _ = _; kernel_rfl), ⟨⟨by kernel_rfl, rfl, trivial⟩, ⟨⟨by kernel_rfl, rfl, trivial⟩, trivial⟩⟩⟩, trivial⟩⟩⟩, trivial⟩⟩⟩, trivial⟩
theorem msg_WriteTxnMarkersResponse : TellOk Tryz.prog F has ⟨20, 51, 52, 54, 55, 91, 56, 22, 21⟩ T_WriteTxnMarkersResponse tl_WriteTxnMarkersResponse fx_WriteTxnMarkersResponse 1 [.int .i16 0, .slice none 0 0, .map none] 2 where
  mx := by kernel_rfl
  maxv := by kernel_rfl
  newp := by kernel_rfl
  setv := by kernel_rfl
  rf := by kernel_rfl
  rd := by kernel_rfl
  tell := by kernel_rfl
  door := by kernel_rfl
  sm := by kernel_rfl
  fxs := fxok_WriteTxnMarkersResponse
  cnt := by kernel_rfl
  dfl := ⟨[], by kernel_rfl, dfOk_of (by kernel_rfl), rfl, rfl, fun _ => rfl⟩
  dfs := dfs_WriteTxnMarkersResponse
  okT := by kernel_rfl
  okL := by kernel_rfl
  subs := subs_WriteTxnMarkersResponse
  cbs := cbs_WriteTxnMarkersResponse
  fits := by kernel_rfl
  small := by kernel_rfl
  len := of_decide_eq_true (by kernel_rfl)
  tlen := of_decide_eq_true (by kernel_rfl)
  rv := by kernel_rfl
  told := by kernel_rfl
  most := by omega

end Go.Proofs.YtkceiijlnaakjaaGreatDoor
