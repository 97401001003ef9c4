/-
  The message JoinGroupRequest: its schemes, and that the program's functions are as the schemes say.
-/
import Derived.Test.YtieneknlekaonaaDoorL
namespace Go.Proofs.YtieneknlekaonaaDoor
open Go.Msk Go.Proofs
set_option maxRecDepth 100000

def T_JoinGroupRequest : Top := ⟨none, (some 6), 155, 178, 179,
  (.prm .all (some (.string .empty)) (.uns (.flx (.call 187) (.call 188)) (.flx (.call 189) (.call 190))) .str (.str []) (.prm .all none (.call 175) .i32 (.int .i32 0) (.prm (.ge 1) none (.call 175) .i32 (.int .i32 (-1)) (.prm .all (some (.string .empty)) (.uns (.flx (.call 187) (.call 188)) (.flx (.call 189) (.call 190))) .str (.str []) (.prm (.ge 5) (some (.pointer none)) (.flx (.uns (.call 182) (.call 183)) (.uns (.call 184) (.call 185))) .nstr .nstr (.prm .all (some (.string .empty)) (.uns (.flx (.call 187) (.call 188)) (.flx (.call 189) (.call 190))) .str (.str []) (.lss .all (.flx (.call 176) (.call 177)) 48 [.string .empty, .slice none 0 0, .map none] 209 (.prm .all (some (.string .empty)) (.uns (.flx (.call 187) (.call 188)) (.flx (.call 189) (.call 190))) .str (.str []) (.prm .all (some (.slice none 0 0)) (.flx (.call 210) (.call 211)) .byt .byt (.tags 191))) (.prm (.ge 8) (some (.pointer none)) (.flx (.uns (.call 182) (.call 183)) (.uns (.call 184) (.call 185))) .nstr .nstr (.tags 191)))))))))⟩
def tl_JoinGroupRequest : Tl := (.fld .str (.fld (.num true) (.fld (.num true) (.fld .str (.fld (.txt 135) (.fld .str (.lst (.tell 157) 3 (.fld .str (.fld (.oct 212) (.tags 213 130 132))) (.fld (.txt 135) (.tags 158 130 132)))))))))
theorem dfs_JoinGroupRequest : DfsOk Tryd.prog T_JoinGroupRequest.sc.dfs := ⟨df_call mixed (l := []) (by kernel_rfl) (dfOk_of (by kernel_rfl)) rfl, trivial⟩
theorem subs_JoinGroupRequest : SubsOk Tryd.prog tl_JoinGroupRequest.subs := ⟨by kernel_rfl, trivial⟩
theorem cbs_JoinGroupRequest : CbsOk Tryd.prog tl_JoinGroupRequest.cbs := ⟨⟨by kernel_rfl, by kernel_rfl⟩, ⟨⟨by kernel_rfl, by kernel_rfl⟩, trivial⟩⟩
theorem msg_JoinGroupRequest : MsgOk Tryd.prog F has ⟨40, 41, 39, 97, 98, 99, 100, 102, 156, 101⟩ T_JoinGroupRequest tl_JoinGroupRequest [.int .i16 0, .string .empty, .int .i32 0, .int .i32 0, .string .empty, .pointer none, .string .empty, .slice none 0 0, .pointer none, .map none] 9 where
  mx := by kernel_rfl
  maxv := by kernel_rfl
  newp := by kernel_rfl
  setv := by kernel_rfl
  rf := by kernel_rfl
  urf := by kernel_rfl
  tellD := by kernel_rfl
  unsD := by kernel_rfl
  rd := by kernel_rfl
  tell := by kernel_rfl
  dfl := ⟨[(3, .int .i32 (-1))], by kernel_rfl, dfOk_of (by kernel_rfl), rfl, rfl, fun _ => rfl⟩
  dfs := dfs_JoinGroupRequest
  okT := by kernel_rfl
  okL := by kernel_rfl
  subs := subs_JoinGroupRequest
  cbs := cbs_JoinGroupRequest
  fits := by kernel_rfl
  small := by kernel_rfl
  len := of_decide_eq_true (by kernel_rfl)
  tlen := of_decide_eq_true (by kernel_rfl)
  most := by omega

end Go.Proofs.YtieneknlekaonaaDoor
