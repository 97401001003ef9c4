/-
  The message AlterUserSCRAMCredentialsResponse: its schemes, and that the program's functions are as the schemes say.
-/
import Derived.Test.YtkceiijlnaakjaaGreatDoorL
namespace Go.Proofs.YtkceiijlnaakjaaGreatDoor
open Go.Msk Go.Proofs
set_option maxRecDepth 100000

def T_AlterUserSCRAMCredentialsResponse : Top := ⟨none, (some 0), 70, 107, 108,
  (.prm .all none (.call 104) .i32 (.int .i32 0) (.lss .all (.flx (.call 105) (.call 106)) 40 [.string .empty, .int .i16 0, .pointer none, .map none] 109 (.prm .all (some (.string .empty)) (.uns (.flx (.call 110) (.call 111)) (.flx (.call 112) (.call 113))) .str (.str []) (.prm .all none (.call 114) .i16 (.int .i16 0) (.prm .all (some (.pointer none)) (.flx (.uns (.call 115) (.call 116)) (.uns (.call 117) (.call 118))) .nstr .nstr (.tags 119)))) (.tags 119)))⟩
def tl_AlterUserSCRAMCredentialsResponse : Tl := (.fld (.num true) (.lst (.tell 72) 4 (.fld .str (.fld (.num true) (.fld (.txt 120) (.tags 121 73 75)))) (.tags 74 73 75)))
def fx_AlterUserSCRAMCredentialsResponse : List FX := [.mk [(0, 3), (2, (-1)), (3, (-1)), (4, (-1))] none [], .mk [(0, 11), (2, (-1)), (3, (-1)), (4, (-1)), (6, 10)] (some 32) [.mk [(0, 8), (2, (-1)), (3, (-1)), (4, (-1))] none [], .mk [(0, 2), (2, (-1)), (3, (-1)), (4, (-1))] none [], .mk [(0, 8), (2, (-1)), (3, 0), (4, (-1))] none []]]
theorem dfs_AlterUserSCRAMCredentialsResponse : DfsOk Tryz.prog T_AlterUserSCRAMCredentialsResponse.sc.dfs := ⟨df_call mixed (l := []) (by kernel_rfl) (dfOk_of (by kernel_rfl)) rfl, trivial⟩
theorem subs_AlterUserSCRAMCredentialsResponse : SubsOk Tryz.prog tl_AlterUserSCRAMCredentialsResponse.subs := ⟨by kernel_rfl, trivial⟩
theorem cbs_AlterUserSCRAMCredentialsResponse : CbsOk Tryz.prog tl_AlterUserSCRAMCredentialsResponse.cbs := ⟨⟨by kernel_rfl, by kernel_rfl⟩, ⟨⟨by kernel_rfl, by kernel_rfl⟩, trivial⟩⟩
theorem fxok_AlterUserSCRAMCredentialsResponse : FX.OkL Tryz.prog fx_AlterUserSCRAMCredentialsResponse := ⟨⟨by kernel_rfl, rfl, trivial⟩, ⟨⟨by kernel_rfl, (by show _ = _; kernel_rfl), ⟨⟨by kernel_rfl, rfl, trivial⟩, ⟨⟨by kernel_rfl, rfl, trivial⟩, ⟨⟨by kernel_rfl, rfl, trivial⟩, trivial⟩⟩⟩⟩, trivial⟩⟩
theorem msg_AlterUserSCRAMCredentialsResponse : TellOk Tryz.prog F has ⟨9, 30, 31, 33, 34, 71, 35, 12, 10⟩ T_AlterUserSCRAMCredentialsResponse tl_AlterUserSCRAMCredentialsResponse fx_AlterUserSCRAMCredentialsResponse 0 [.int .i16 0, .int .i32 0, .slice none 0 0, .map none] 0 where
  mx := by kernel_rfl
  maxv := by kernel_rfl
  newp := by kernel_rfl
  setv := by kernel_rfl
  rf := by kernel_rfl
  rd := by kernel_rfl
  tell := by kernel_rfl
  door := by kernel_rfl
  sm := by kernel_rfl
  fxs := fxok_AlterUserSCRAMCredentialsResponse
  cnt := by kernel_rfl
  dfl := ⟨[], by kernel_rfl, dfOk_of (by kernel_rfl), rfl, rfl, fun _ => rfl⟩
  dfs := dfs_AlterUserSCRAMCredentialsResponse
  okT := by kernel_rfl
  okL := by kernel_rfl
  subs := subs_AlterUserSCRAMCredentialsResponse
  cbs := cbs_AlterUserSCRAMCredentialsResponse
  fits := by kernel_rfl
  small := by kernel_rfl
  len := of_decide_eq_true (by kernel_rfl)
  tlen := of_decide_eq_true (by kernel_rfl)
  rv := by kernel_rfl
  told := by kernel_rfl
  most := by omega

end Go.Proofs.YtkceiijlnaakjaaGreatDoor
