/-
  The message RemoveRaftVoterResponse: its schemes, and that the program's functions are as the schemes say.
-/
import Derived.Test.YtieneknlekaonaaDoorL
namespace Go.Proofs.YtieneknlekaonaaDoor
open Go.Msk Go.Proofs
set_option maxRecDepth 100000

def T_RemoveRaftVoterResponse : Top := ⟨none, (some 0), 172, 178, 179,
  (.prm .all none (.call 175) .i32 (.int .i32 0) (.prm .all none (.call 181) .i16 (.int .i16 0) (.prm .all (some (.pointer none)) (.flx (.uns (.call 182) (.call 183)) (.uns (.call 184) (.call 185))) .nstr .nstr (.tags 191))))⟩
def tl_RemoveRaftVoterResponse : Tl := (.fld (.num true) (.fld (.num true) (.fld (.txt 135) (.tags 174 130 132))))
theorem dfs_RemoveRaftVoterResponse : DfsOk Tryd.prog T_RemoveRaftVoterResponse.sc.dfs := trivial
theorem subs_RemoveRaftVoterResponse : SubsOk Tryd.prog tl_RemoveRaftVoterResponse.subs := trivial
theorem cbs_RemoveRaftVoterResponse : CbsOk Tryd.prog tl_RemoveRaftVoterResponse.cbs := ⟨⟨by kernel_rfl, by kernel_rfl⟩, trivial⟩
theorem msg_RemoveRaftVoterResponse : MsgOk Tryd.prog F has ⟨52, 53, 51, 121, 122, 123, 124, 126, 173, 125⟩ T_RemoveRaftVoterResponse tl_RemoveRaftVoterResponse [.int .i16 0, .int .i32 0, .int .i16 0, .pointer none, .map none] 0 where
  mx := by kernel_rfl
  maxv := by kernel_rfl
  newp := by kernel_rfl
  setv := by kernel_rfl
  rf := by kernel_rfl
  urf := by kernel_rfl
  tellD := by kernel_rfl
  unsD := by kernel_rfl
  rd := by kernel_rfl
  tell := by kernel_rfl
  dfl := ⟨[], by kernel_rfl, dfOk_of (by kernel_rfl), rfl, rfl, fun _ => rfl⟩
  dfs := dfs_RemoveRaftVoterResponse
  okT := by kernel_rfl
  okL := by kernel_rfl
  subs := subs_RemoveRaftVoterResponse
  cbs := cbs_RemoveRaftVoterResponse
  fits := by kernel_rfl
  small := by kernel_rfl
  len := of_decide_eq_true (by kernel_rfl)
  tlen := of_decide_eq_true (by kernel_rfl)
  most := by omega

end Go.Proofs.YtieneknlekaonaaDoor
