/-
  The message SyncGroupResponse: its schemes, and that the program's functions are as the schemes say.
-/
import Derived.Test.YtebpkfdpbcplgaaDoorRRL
namespace Go.Proofs.YtebpkfdpbcplgaaDoorRR
open Go.Msk Go.Proofs
set_option maxRecDepth 100000

def T_SyncGroupResponse : Top := ⟨none, (some 4), 55, 68, 69,
  (.prm (.ge 1) none (.call 74) .i32 (.int .i32 0) (.prm .all none (.call 66) .i16 (.int .i16 0) (.prm (.ge 5) (some (.pointer none)) (.flx (.uns (.call 85) (.call 86)) (.uns (.call 75) (.call 76))) .nstr .nstr (.prm (.ge 5) (some (.pointer none)) (.flx (.uns (.call 85) (.call 86)) (.uns (.call 75) (.call 76))) .nstr .nstr (.prm .all (some (.slice none 0 0)) (.flx (.call 87) (.call 88)) .byt .byt (.tags 89))))))⟩
def tl_SyncGroupResponse : Tl := (.fld (.num true) (.fld (.num true) (.fld (.txt 53) (.fld (.txt 53) (.fld (.oct 51) (.tags 58 57 59))))))
theorem dfs_SyncGroupResponse : DfsOk Tryd.prog T_SyncGroupResponse.sc.dfs := trivial
theorem subs_SyncGroupResponse : SubsOk Tryd.prog tl_SyncGroupResponse.subs := trivial
theorem cbs_SyncGroupResponse : CbsOk Tryd.prog tl_SyncGroupResponse.cbs := ⟨⟨by kernel_rfl, by kernel_rfl⟩, trivial⟩
theorem msg_SyncGroupResponse : MsgOk Tryd.prog F has ⟨14, 16, 13, 31, 32, 33, 34, 36, 56, 35⟩ T_SyncGroupResponse tl_SyncGroupResponse [.int .i16 0, .int .i32 0, .int .i16 0, .pointer none, .pointer none, .slice none 0 0, .map none] 5 where
  mx := by kernel_rfl
  maxv := by kernel_rfl
  newp := by kernel_rfl
  setv := by kernel_rfl
  rf := by kernel_rfl
  urf := by kernel_rfl
  tellD := by kernel_rfl
  unsD := by kernel_rfl
  rd := by kernel_rfl
  tell := by kernel_rfl
  dfl := ⟨[], by kernel_rfl, dfOk_of (by kernel_rfl), rfl, rfl, fun _ => rfl⟩
  dfs := dfs_SyncGroupResponse
  okT := by kernel_rfl
  okL := by kernel_rfl
  subs := subs_SyncGroupResponse
  cbs := cbs_SyncGroupResponse
  fits := by kernel_rfl
  small := by kernel_rfl
  len := of_decide_eq_true (by kernel_rfl)
  tlen := of_decide_eq_true (by kernel_rfl)
  most := by omega

end Go.Proofs.YtebpkfdpbcplgaaDoorRR
