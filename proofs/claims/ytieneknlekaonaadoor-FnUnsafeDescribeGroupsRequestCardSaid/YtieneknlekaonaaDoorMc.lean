/-
  The message DescribeGroupsRequest: its schemes, and that the program's functions are as the schemes say.
-/
import Derived.Test.YtieneknlekaonaaDoorL
namespace Go.Proofs.YtieneknlekaonaaDoor
open Go.Msk Go.Proofs
set_option maxRecDepth 100000

def T_DescribeGroupsRequest : Top := ⟨none, (some 5), 138, 178, 179,
  (.lsp .all (.flx (.call 176) (.call 177)) 16 (.str []) (some (.string .empty)) (.uns (.flx (.call 187) (.call 188)) (.flx (.call 189) (.call 190))) .str (.prm (.ge 3) none (.call 201) .bool (.bool false) (.tags 191)))⟩
def tl_DescribeGroupsRequest : Tl := (.lst (.str) 1 .nil (.fld (.boo 140) (.tags 141 130 132)))
theorem dfs_DescribeGroupsRequest : DfsOk Tryd.prog T_DescribeGroupsRequest.sc.dfs := trivial
theorem subs_DescribeGroupsRequest : SubsOk Tryd.prog tl_DescribeGroupsRequest.subs := trivial
theorem cbs_DescribeGroupsRequest : CbsOk Tryd.prog tl_DescribeGroupsRequest.cbs := ⟨⟨by kernel_rfl, by kernel_rfl⟩, trivial⟩
theorem msg_DescribeGroupsRequest : MsgOk Tryd.prog F has ⟨25, 26, 24, 67, 68, 69, 70, 72, 139, 71⟩ T_DescribeGroupsRequest tl_DescribeGroupsRequest [.int .i16 0, .slice none 0 0, .bool false, .map none] 6 where
  mx := by kernel_rfl
  maxv := by kernel_rfl
  newp := by kernel_rfl
  setv := by kernel_rfl
  rf := by kernel_rfl
  urf := by kernel_rfl
  tellD := by kernel_rfl
  unsD := by kernel_rfl
  rd := by kernel_rfl
  tell := by kernel_rfl
  dfl := ⟨[], by kernel_rfl, dfOk_of (by kernel_rfl), rfl, rfl, fun _ => rfl⟩
  dfs := dfs_DescribeGroupsRequest
  okT := by kernel_rfl
  okL := by kernel_rfl
  subs := subs_DescribeGroupsRequest
  cbs := cbs_DescribeGroupsRequest
  fits := by kernel_rfl
  small := by kernel_rfl
  len := of_decide_eq_true (by kernel_rfl)
  tlen := of_decide_eq_true (by kernel_rfl)
  most := by omega

end Go.Proofs.YtieneknlekaonaaDoor
