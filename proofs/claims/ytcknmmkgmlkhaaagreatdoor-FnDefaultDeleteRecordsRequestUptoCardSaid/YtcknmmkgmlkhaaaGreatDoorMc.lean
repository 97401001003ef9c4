/-
  The message DeleteRecordsRequest: its schemes, and that the program's functions are as the schemes say.
-/
import Derived.Test.YtcknmmkgmlkhaaaGreatDoorL
namespace Go.Proofs.YtcknmmkgmlkhaaaGreatDoor
open Go.Msk Go.Proofs
set_option maxRecDepth 100000

def T_DeleteRecordsRequest : Top := ⟨none, (some 2), 42, 132, 133,
  (.lss .all (.flx (.call 130) (.call 131)) 48 [.string .empty, .slice none 0 0, .map none] 134 (.prm .all (some (.string .empty)) (.uns (.flx (.call 135) (.call 136)) (.flx (.call 137) (.call 138))) .str (.str []) (.lss .all (.flx (.call 130) (.call 131)) 24 [.int .i32 0, .int .i64 0, .map none] 139 (.prm .all none (.call 140) .i32 (.int .i32 0) (.prm .all none (.call 141) .i64 (.int .i64 0) (.tags 142))) (.tags 142))) (.prm .all none (.call 140) .i32 (.int .i32 15000) (.tags 142)))⟩
def tl_DeleteRecordsRequest : Tl := (.lst (.tell 93) 3 (.fld .str (.lst (.tell 143) 3 (.fld (.num true) (.fld (.num false) (.tags 195 94 96))) (.tags 144 94 96))) (.fld (.num true) (.tags 95 94 96)))
def fx_DeleteRecordsRequest : List FX := [.mk [(0, 11), (2, (-1)), (3, (-1)), (4, (-1)), (6, 10)] (some 39) [.mk [(0, 8), (2, (-1)), (3, (-1)), (4, (-1))] none [], .mk [(0, 11), (2, (-1)), (3, (-1)), (4, (-1)), (6, 10)] (some 91) [.mk [(0, 3), (2, (-1)), (3, (-1)), (4, (-1))] none [], .mk [(0, 4), (2, (-1)), (3, (-1)), (4, (-1))] none []]], .mk [(0, 3), (2, (-1)), (3, (-1)), (4, (-1)), (5, 15000)] none []]
theorem dfs_DeleteRecordsRequest : DfsOk Tryz.prog T_DeleteRecordsRequest.sc.dfs := ⟨df_call mixed (l := []) (by kernel_rfl) (dfOk_of (by kernel_rfl)) rfl, ⟨df_call mixed (l := []) (by kernel_rfl) (dfOk_of (by kernel_rfl)) rfl, trivial⟩⟩
theorem subs_DeleteRecordsRequest : SubsOk Tryz.prog tl_DeleteRecordsRequest.subs := ⟨by kernel_rfl, ⟨by kernel_rfl, trivial⟩⟩
theorem cbs_DeleteRecordsRequest : CbsOk Tryz.prog tl_DeleteRecordsRequest.cbs := ⟨⟨by kernel_rfl, by kernel_rfl⟩, ⟨⟨by kernel_rfl, by kernel_rfl⟩, ⟨⟨by kernel_rfl, by kernel_rfl⟩, trivial⟩⟩⟩
theorem fxok_DeleteRecordsRequest : FX.OkL Tryz.prog fx_DeleteRecordsRequest := ⟨⟨by kernel_rfl, (by show _ = _; kernel_rfl), ⟨⟨by kernel_rfl, rfl, trivial⟩, ⟨⟨by kernel_rfl, (by show _ = _; kernel_rfl), ⟨⟨by kernel_rfl, rfl, trivial⟩, ⟨⟨by kernel_rfl, rfl, trivial⟩, trivial⟩⟩⟩, trivial⟩⟩⟩, ⟨⟨by kernel_rfl, rfl, trivial⟩, trivial⟩⟩
theorem msg_DeleteRecordsRequest : DefOk Tryz.prog F has ⟨11, 37, 38, 40, 41, 92, 43, 14, 12⟩ T_DeleteRecordsRequest tl_DeleteRecordsRequest fx_DeleteRecordsRequest 2 [.int .i16 0, .slice none 0 0, .int .i32 0, .map none] 2 1 .i32 15000 where
  mx := by kernel_rfl
  maxv := by kernel_rfl
  newp := by kernel_rfl
  setv := by kernel_rfl
  rf := by kernel_rfl
  rd := by kernel_rfl
  tell := by kernel_rfl
  door := by kernel_rfl
  sm := by kernel_rfl
  fxs := fxok_DeleteRecordsRequest
  cnt := by kernel_rfl
  dfl := ⟨[(2, .int .i32 15000)], rfl, by kernel_rfl, dfOk_of (by kernel_rfl), rfl, rfl, fun _ => rfl⟩
  dfs := dfs_DeleteRecordsRequest
  okT := by kernel_rfl
  okL := by kernel_rfl
  subs := subs_DeleteRecordsRequest
  cbs := cbs_DeleteRecordsRequest
  fits := by kernel_rfl
  small := by kernel_rfl
  len := of_decide_eq_true (by kernel_rfl)
  tlen := of_decide_eq_true (by kernel_rfl)
  rv := by kernel_rfl
  set := by kernel_rfl
  most := by omega

end Go.Proofs.YtcknmmkgmlkhaaaGreatDoor
