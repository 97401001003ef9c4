/-
  The message WriteShareGroupStateRequest: its schemes, and that the program's functions are as the schemes say.
-/
import Derived.Test.YtkceiijlnaakjaaGreatDoorL
namespace Go.Proofs.YtkceiijlnaakjaaGreatDoor
open Go.Msk Go.Proofs
set_option maxRecDepth 100000

def T_WriteShareGroupStateRequest : Top := ⟨none, (some 0), 94, 107, 108,
  (.prm .all (some (.string .empty)) (.uns (.flx (.call 110) (.call 111)) (.flx (.call 112) (.call 113))) .str (.str []) (.lss .all (.flx (.call 105) (.call 106)) 48 [.int .u8 0, .int .u8 0, .int .u8 0, .int .u8 0, .int .u8 0, .int .u8 0, .int .u8 0, .int .u8 0, .int .u8 0, .int .u8 0, .int .u8 0, .int .u8 0, .int .u8 0, .int .u8 0, .int .u8 0, .int .u8 0, .slice none 0 0, .map none] 138 (.uid .all 139 (.lss .all (.flx (.call 105) (.call 106)) 64 [.int .i32 0, .int .i32 0, .int .i32 0, .int .i64 0, .int .i32 0, .slice none 0 0, .map none] 140 (.prm .all none (.call 104) .i32 (.int .i32 0) (.prm .all none (.call 104) .i32 (.int .i32 0) (.prm .all none (.call 104) .i32 (.int .i32 0) (.prm .all none (.call 128) .i64 (.int .i64 0) (.prm (.ge 1) none (.call 104) .i32 (.int .i32 (-1)) (.lss .all (.flx (.call 105) (.call 106)) 32 [.int .i64 0, .int .i64 0, .int .i8 0, .int .i16 0, .map none] 141 (.prm .all none (.call 128) .i64 (.int .i64 0) (.prm .all none (.call 128) .i64 (.int .i64 0) (.prm .all none (.call 142) .i8 (.int .i8 0) (.prm .all none (.call 114) .i16 (.int .i16 0) (.tags 119))))) (.tags 119))))))) (.tags 119))) (.tags 119)))⟩
def tl_WriteShareGroupStateRequest : Tl := (.fld .str (.lst (.tell 97) 18 (.uid (.lst (.tell 143) 7 (.fld (.num true) (.fld (.num true) (.fld (.num true) (.fld (.num false) (.fld (.num true) (.lst (.tell 167) 5 (.fld (.num false) (.fld (.num false) (.fld (.num true) (.fld (.num true) (.tags 194 73 75))))) (.tags 168 73 75))))))) (.tags 144 73 75))) (.tags 98 73 75)))
def fx_WriteShareGroupStateRequest : List FX := [.mk [(0, 8), (2, (-1)), (3, (-1)), (4, (-1))] none [], .mk [(0, 11), (2, (-1)), (3, (-1)), (4, (-1)), (6, 10)] (some 59) [.mk [(0, 7), (2, (-1)), (3, (-1)), (4, (-1))] none [], .mk [(0, 11), (2, (-1)), (3, (-1)), (4, (-1)), (6, 10)] (some 95) [.mk [(0, 3), (2, (-1)), (3, (-1)), (4, (-1))] none [], .mk [(0, 3), (2, (-1)), (3, (-1)), (4, (-1))] none [], .mk [(0, 3), (2, (-1)), (3, (-1)), (4, (-1))] none [], .mk [(0, 4), (2, (-1)), (3, (-1)), (4, (-1))] none [], .mk [(0, 3), (1, 1), (2, (-1)), (3, (-1)), (4, (-1)), (5, (-1))] none [], .mk [(0, 11), (2, (-1)), (3, (-1)), (4, (-1)), (6, 10)] (some 137) [.mk [(0, 4), (2, (-1)), (3, (-1)), (4, (-1))] none [], .mk [(0, 4), (2, (-1)), (3, (-1)), (4, (-1))] none [], .mk [(0, 1), (2, (-1)), (3, (-1)), (4, (-1))] none [], .mk [(0, 2), (2, (-1)), (3, (-1)), (4, (-1))] none []]]]]
theorem dfs_WriteShareGroupStateRequest : DfsOk Tryz.prog T_WriteShareGroupStateRequest.sc.dfs := ⟨df_call mixed (l := []) (by kernel_rfl) (dfOk_of (by kernel_rfl)) rfl, ⟨df_call mixed (l := [(4, .int .i32 (-1))]) (by kernel_rfl) (dfOk_of (by kernel_rfl)) rfl, ⟨df_call mixed (l := []) (by kernel_rfl) (dfOk_of (by kernel_rfl)) rfl, trivial⟩⟩⟩
theorem subs_WriteShareGroupStateRequest : SubsOk Tryz.prog tl_WriteShareGroupStateRequest.subs := ⟨by kernel_rfl, ⟨by kernel_rfl, ⟨by kernel_rfl, trivial⟩⟩⟩
theorem cbs_WriteShareGroupStateRequest : CbsOk Tryz.prog tl_WriteShareGroupStateRequest.cbs := ⟨⟨by kernel_rfl, by kernel_rfl⟩, ⟨⟨by kernel_rfl, by kernel_rfl⟩, ⟨⟨by kernel_rfl, by kernel_rfl⟩, ⟨⟨by kernel_rfl, by kernel_rfl⟩, trivial⟩⟩⟩⟩
theorem fxok_WriteShareGroupStateRequest : FX.OkL Tryz.prog fx_WriteShareGroupStateRequest := ⟨⟨by kernel_rfl, rfl, trivial⟩, ⟨⟨by kernel_rfl, (by show _ = _; kernel_rfl), ⟨⟨by kernel_rfl, rfl, trivial⟩, ⟨⟨by kernel_rfl, (by show _ = _; kernel_rfl), ⟨⟨by kernel_rfl, rfl, trivial⟩, ⟨⟨by kernel_rfl, rfl, trivial⟩, ⟨⟨by kernel_rfl, rfl, trivial⟩, ⟨⟨by kernel_rfl, rfl, trivial⟩, ⟨⟨by kernel_rfl, rfl, trivial⟩, ⟨⟨by kernel_rfl, (by show _ = _; kernel_rfl), ⟨⟨by kernel_rfl, rfl, trivial⟩, ⟨⟨by kernel_rfl, rfl, trivial⟩, ⟨⟨by kernel_rfl, rfl, trivial⟩, ⟨⟨by kernel_rfl, rfl, trivial⟩, trivial⟩⟩⟩⟩⟩, trivial⟩⟩⟩⟩⟩⟩⟩, trivial⟩⟩⟩, trivial⟩⟩
theorem msg_WriteShareGroupStateRequest : TellOk Tryz.prog F has ⟨23, 57, 58, 60, 61, 96, 62, 25, 24⟩ T_WriteShareGroupStateRequest tl_WriteShareGroupStateRequest fx_WriteShareGroupStateRequest 0 [.int .i16 0, .string .empty, .slice none 0 0, .map none] 1 where
  mx := by kernel_rfl
  maxv := by kernel_rfl
  newp := by kernel_rfl
  setv := by kernel_rfl
  rf := by kernel_rfl
  rd := by kernel_rfl
  tell := by kernel_rfl
  door := by kernel_rfl
  sm := by kernel_rfl
  fxs := fxok_WriteShareGroupStateRequest
  cnt := by kernel_rfl
  dfl := ⟨[], by kernel_rfl, dfOk_of (by kernel_rfl), rfl, rfl, fun _ => rfl⟩
  dfs := dfs_WriteShareGroupStateRequest
  okT := by kernel_rfl
  okL := by kernel_rfl
  subs := subs_WriteShareGroupStateRequest
  cbs := cbs_WriteShareGroupStateRequest
  fits := by kernel_rfl
  small := by kernel_rfl
  len := of_decide_eq_true (by kernel_rfl)
  tlen := of_decide_eq_true (by kernel_rfl)
  rv := by kernel_rfl
  told := by kernel_rfl
  most := by omega

end Go.Proofs.YtkceiijlnaakjaaGreatDoor
