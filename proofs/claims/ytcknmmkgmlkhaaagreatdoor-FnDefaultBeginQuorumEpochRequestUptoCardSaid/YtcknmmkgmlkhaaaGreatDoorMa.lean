/-
  The message BeginQuorumEpochRequest: its schemes, and that the program's functions are as the schemes say.
-/
import Derived.Test.YtcknmmkgmlkhaaaGreatDoorL
namespace Go.Proofs.YtcknmmkgmlkhaaaGreatDoor
open Go.Msk Go.Proofs
set_option maxRecDepth 100000

def T_BeginQuorumEpochRequest : Top := ⟨none, (some 1), 73, 132, 133,
  (.prm .all (some (.pointer none)) (.flx (.uns (.call 154) (.call 155)) (.uns (.call 156) (.call 157))) .nstr .nstr (.prm (.ge 1) none (.call 140) .i32 (.int .i32 (-1)) (.lss .all (.flx (.call 130) (.call 131)) 48 [.string .empty, .slice none 0 0, .map none] 166 (.prm .all (some (.string .empty)) (.uns (.flx (.call 135) (.call 136)) (.flx (.call 137) (.call 138))) .str (.str []) (.lss .all (.flx (.call 130) (.call 131)) 40 [.int .i32 0, .int .u8 0, .int .u8 0, .int .u8 0, .int .u8 0, .int .u8 0, .int .u8 0, .int .u8 0, .int .u8 0, .int .u8 0, .int .u8 0, .int .u8 0, .int .u8 0, .int .u8 0, .int .u8 0, .int .u8 0, .int .u8 0, .int .i32 0, .int .i32 0, .map none] 167 (.prm .all none (.call 140) .i32 (.int .i32 0) (.uid (.ge 1) 159 (.prm .all none (.call 140) .i32 (.int .i32 0) (.prm .all none (.call 140) .i32 (.int .i32 0) (.tags 142))))) (.tags 142))) (.lss (.ge 1) (.flx (.call 130) (.call 131)) 48 [.string .empty, .string .empty, .int .u16 0, .map none] 168 (.prm .all (some (.string .empty)) (.uns (.flx (.call 135) (.call 136)) (.flx (.call 137) (.call 138))) .str (.str []) (.prm .all (some (.string .empty)) (.uns (.flx (.call 135) (.call 136)) (.flx (.call 137) (.call 138))) .str (.str []) (.prm .all none (.call 169) .u16 (.int .u16 0) (.tags 142)))) (.tags 142)))))⟩
def tl_BeginQuorumEpochRequest : Tl := (.fld (.txt 105) (.fld (.num true) (.lst (.tell 117) 3 (.fld .str (.lst (.tell 170) 20 (.fld (.num true) (.uid (.fld (.num true) (.fld (.num true) (.tags 203 94 96))))) (.tags 171 94 96))) (.lst (.tell 118) 4 (.fld .str (.fld .str (.fld (.num true) (.tags 172 94 96)))) (.tags 119 94 96)))))
def fx_BeginQuorumEpochRequest : List FX := [.mk [(0, 8), (2, (-1)), (3, 0), (4, (-1))] none [], .mk [(0, 3), (1, 1), (2, (-1)), (3, (-1)), (4, (-1)), (5, (-1))] none [], .mk [(0, 11), (2, (-1)), (3, (-1)), (4, (-1)), (6, 10)] (some 69) [.mk [(0, 8), (2, (-1)), (3, (-1)), (4, (-1))] none [], .mk [(0, 11), (2, (-1)), (3, (-1)), (4, (-1)), (6, 10)] (some 115) [.mk [(0, 3), (2, (-1)), (3, (-1)), (4, (-1))] none [], .mk [(0, 7), (1, 1), (2, (-1)), (3, (-1)), (4, (-1))] none [], .mk [(0, 3), (2, (-1)), (3, (-1)), (4, (-1))] none [], .mk [(0, 3), (2, (-1)), (3, (-1)), (4, (-1))] none []]], .mk [(0, 11), (1, 1), (2, (-1)), (3, (-1)), (4, (-1)), (6, 10)] (some 70) [.mk [(0, 8), (2, (-1)), (3, (-1)), (4, (-1))] none [], .mk [(0, 8), (2, (-1)), (3, (-1)), (4, (-1))] none [], .mk [(0, 5), (2, (-1)), (3, (-1)), (4, (-1))] none []]]
theorem dfs_BeginQuorumEpochRequest : DfsOk Tryz.prog T_BeginQuorumEpochRequest.sc.dfs := ⟨df_call mixed (l := []) (by kernel_rfl) (dfOk_of (by kernel_rfl)) rfl, ⟨df_call mixed (l := []) (by kernel_rfl) (dfOk_of (by kernel_rfl)) rfl, ⟨df_call mixed (l := []) (by kernel_rfl) (dfOk_of (by kernel_rfl)) rfl, trivial⟩⟩⟩
theorem subs_BeginQuorumEpochRequest : SubsOk Tryz.prog tl_BeginQuorumEpochRequest.subs := ⟨by kernel_rfl, ⟨by kernel_rfl, ⟨by kernel_rfl, trivial⟩⟩⟩
theorem cbs_BeginQuorumEpochRequest : CbsOk Tryz.prog tl_BeginQuorumEpochRequest.cbs := ⟨⟨by kernel_rfl, by kernel_rfl⟩, ⟨⟨by kernel_rfl, by kernel_rfl⟩, ⟨⟨by kernel_rfl, by kernel_rfl⟩, ⟨⟨by kernel_rfl, by kernel_rfl⟩, trivial⟩⟩⟩⟩
theorem fxok_BeginQuorumEpochRequest : FX.OkL Tryz.prog fx_BeginQuorumEpochRequest := ⟨⟨by kernel_rfl, rfl, trivial⟩, ⟨⟨by kernel_rfl, rfl, trivial⟩, ⟨⟨by kernel_rfl, (by show _ = _; kernel_rfl), ⟨⟨by kernel_rfl, rfl, trivial⟩, ⟨⟨by kernel_rfl, (by show _ = _; kernel_rfl), ⟨⟨by kernel_rfl, rfl, trivial⟩, ⟨⟨by kernel_rfl, rfl, trivial⟩, ⟨⟨by kernel_rfl, rfl, trivial⟩, ⟨⟨by kernel_rfl, rfl, trivial⟩, trivial⟩⟩⟩⟩⟩, trivial⟩⟩⟩, ⟨⟨by kernel_rfl, (by show _ = _; kernel_rfl), ⟨⟨by kernel_rfl, rfl, trivial⟩, ⟨⟨by kernel_rfl, rfl, trivial⟩, ⟨⟨by kernel_rfl, rfl, trivial⟩, trivial⟩⟩⟩⟩, trivial⟩⟩⟩⟩
theorem msg_BeginQuorumEpochRequest : DefOk Tryz.prog F has ⟨27, 67, 68, 71, 72, 116, 74, 29, 28⟩ T_BeginQuorumEpochRequest tl_BeginQuorumEpochRequest fx_BeginQuorumEpochRequest 1 [.int .i16 0, .pointer none, .int .i32 0, .slice none 0 0, .slice none 0 0, .map none] 1 1 .i32 (-1) where
  mx := by kernel_rfl
  maxv := by kernel_rfl
  newp := by kernel_rfl
  setv := by kernel_rfl
  rf := by kernel_rfl
  rd := by kernel_rfl
  tell := by kernel_rfl
  door := by kernel_rfl
  sm := by kernel_rfl
  fxs := fxok_BeginQuorumEpochRequest
  cnt := by kernel_rfl
  dfl := ⟨[(2, .int .i32 (-1))], rfl, by kernel_rfl, dfOk_of (by kernel_rfl), rfl, rfl, fun _ => rfl⟩
  dfs := dfs_BeginQuorumEpochRequest
  okT := by kernel_rfl
  okL := by kernel_rfl
  subs := subs_BeginQuorumEpochRequest
  cbs := cbs_BeginQuorumEpochRequest
  fits := by kernel_rfl
  small := by kernel_rfl
  len := of_decide_eq_true (by kernel_rfl)
  tlen := of_decide_eq_true (by kernel_rfl)
  rv := by kernel_rfl
  set := by kernel_rfl
  most := by omega

end Go.Proofs.YtcknmmkgmlkhaaaGreatDoor
