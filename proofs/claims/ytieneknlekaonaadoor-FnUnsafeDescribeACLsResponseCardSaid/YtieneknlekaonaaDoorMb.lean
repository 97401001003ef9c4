/-
  The message DescribeACLsResponse: its schemes, and that the program's functions are as the schemes say.
-/
import Derived.Test.YtieneknlekaonaaDoorL
namespace Go.Proofs.YtieneknlekaonaaDoor
open Go.Msk Go.Proofs
set_option maxRecDepth 100000

def T_DescribeACLsResponse : Top := ⟨none, (some 2), 133, 178, 179,
  (.prm .all none (.call 175) .i32 (.int .i32 0) (.prm .all none (.call 181) .i16 (.int .i16 0) (.prm .all (some (.pointer none)) (.flx (.uns (.call 182) (.call 183)) (.uns (.call 184) (.call 185))) .nstr .nstr (.lss .all (.flx (.call 176) (.call 177)) 64 [.int .i8 0, .string .empty, .int .i8 0, .slice none 0 0, .map none] 196 (.enm .all (.int .i8 0) (.call 197) .i8 (.int .i8 0) (.prm .all (some (.string .empty)) (.uns (.flx (.call 187) (.call 188)) (.flx (.call 189) (.call 190))) .str (.str []) (.enm (.ge 1) (.int .i8 0) (.call 197) .i8 (.int .i8 3) (.lss .all (.flx (.call 176) (.call 177)) 48 [.string .empty, .string .empty, .int .i8 0, .int .i8 0, .map none] 198 (.prm .all (some (.string .empty)) (.uns (.flx (.call 187) (.call 188)) (.flx (.call 189) (.call 190))) .str (.str []) (.prm .all (some (.string .empty)) (.uns (.flx (.call 187) (.call 188)) (.flx (.call 189) (.call 190))) .str (.str []) (.enm .all (.int .i8 0) (.call 197) .i8 (.int .i8 0) (.enm .all (.int .i8 0) (.call 197) .i8 (.int .i8 0) (.tags 191))))) (.tags 191))))) (.tags 191)))))⟩
def tl_DescribeACLsResponse : Tl := (.fld (.num true) (.fld (.num true) (.fld (.txt 135) (.lst (.tell 136) 5 (.fld (.num true) (.fld .str (.fld (.num true) (.lst (.tell 199) 5 (.fld .str (.fld .str (.fld (.num true) (.fld (.num true) (.tags 245 130 132))))) (.tags 200 130 132))))) (.tags 137 130 132)))))
theorem dfs_DescribeACLsResponse : DfsOk Tryd.prog T_DescribeACLsResponse.sc.dfs := ⟨df_call mixed (l := [(2, .int .i8 3)]) (by kernel_rfl) (dfOk_of (by kernel_rfl)) rfl, ⟨df_call mixed (l := []) (by kernel_rfl) (dfOk_of (by kernel_rfl)) rfl, trivial⟩⟩
theorem subs_DescribeACLsResponse : SubsOk Tryd.prog tl_DescribeACLsResponse.subs := ⟨by kernel_rfl, ⟨by kernel_rfl, trivial⟩⟩
theorem cbs_DescribeACLsResponse : CbsOk Tryd.prog tl_DescribeACLsResponse.cbs := ⟨⟨by kernel_rfl, by kernel_rfl⟩, ⟨⟨by kernel_rfl, by kernel_rfl⟩, ⟨⟨by kernel_rfl, by kernel_rfl⟩, trivial⟩⟩⟩
theorem msg_DescribeACLsResponse : MsgOk Tryd.prog F has ⟨22, 23, 21, 61, 62, 63, 64, 66, 134, 65⟩ T_DescribeACLsResponse tl_DescribeACLsResponse [.int .i16 0, .int .i32 0, .int .i16 0, .pointer none, .slice none 0 0, .map none] 3 where
  mx := by kernel_rfl
  maxv := by kernel_rfl
  newp := by kernel_rfl
  setv := by kernel_rfl
  rf := by kernel_rfl
  urf := by kernel_rfl
  tellD := by kernel_rfl
  unsD := by kernel_rfl
  rd := by kernel_rfl
  tell := by kernel_rfl
  dfl := ⟨[], by kernel_rfl, dfOk_of (by kernel_rfl), rfl, rfl, fun _ => rfl⟩
  dfs := dfs_DescribeACLsResponse
  okT := by kernel_rfl
  okL := by kernel_rfl
  subs := subs_DescribeACLsResponse
  cbs := cbs_DescribeACLsResponse
  fits := by kernel_rfl
  small := by kernel_rfl
  len := of_decide_eq_true (by kernel_rfl)
  tlen := of_decide_eq_true (by kernel_rfl)
  most := by omega

end Go.Proofs.YtieneknlekaonaaDoor
