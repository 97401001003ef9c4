/-
  The message UnregisterControllerResponse: its schemes, and that the program's functions are as the schemes say.
-/
import Derived.Test.YtebpkfdpbcplgaaDoorRRL
namespace Go.Proofs.YtebpkfdpbcplgaaDoorRR
open Go.Msk Go.Proofs
set_option maxRecDepth 100000

def T_UnregisterControllerResponse : Top := ⟨none, (some 0), 63, 68, 69,
  (.prm .all none (.call 74) .i32 (.int .i32 0) (.prm .all none (.call 66) .i16 (.int .i16 0) (.prm .all (some (.pointer none)) (.flx (.uns (.call 85) (.call 86)) (.uns (.call 75) (.call 76))) .nstr .nstr (.tags 89))))⟩
def tl_UnregisterControllerResponse : Tl := (.fld (.num true) (.fld (.num true) (.fld (.txt 53) (.tags 65 57 59))))
theorem dfs_UnregisterControllerResponse : DfsOk Tryd.prog T_UnregisterControllerResponse.sc.dfs := trivial
theorem subs_UnregisterControllerResponse : SubsOk Tryd.prog tl_UnregisterControllerResponse.subs := trivial
theorem cbs_UnregisterControllerResponse : CbsOk Tryd.prog tl_UnregisterControllerResponse.cbs := ⟨⟨by kernel_rfl, by kernel_rfl⟩, trivial⟩
theorem msg_UnregisterControllerResponse : MsgOk Tryd.prog F has ⟨21, 22, 20, 43, 44, 45, 46, 48, 64, 47⟩ T_UnregisterControllerResponse tl_UnregisterControllerResponse [.int .i16 0, .int .i32 0, .int .i16 0, .pointer none, .map none] 0 where
  mx := by kernel_rfl
  maxv := by kernel_rfl
  newp := by kernel_rfl
  setv := by kernel_rfl
  rf := by kernel_rfl
  urf := by kernel_rfl
  tellD := by kernel_rfl
  unsD := by kernel_rfl
  rd := by kernel_rfl
  tell := by kernel_rfl
  dfl := ⟨[], by kernel_rfl, dfOk_of (by kernel_rfl), rfl, rfl, fun _ => rfl⟩
  dfs := dfs_UnregisterControllerResponse
  okT := by kernel_rfl
  okL := by kernel_rfl
  subs := subs_UnregisterControllerResponse
  cbs := cbs_UnregisterControllerResponse
  fits := by kernel_rfl
  small := by kernel_rfl
  len := of_decide_eq_true (by kernel_rfl)
  tlen := of_decide_eq_true (by kernel_rfl)
  most := by omega

end Go.Proofs.YtebpkfdpbcplgaaDoorRR
