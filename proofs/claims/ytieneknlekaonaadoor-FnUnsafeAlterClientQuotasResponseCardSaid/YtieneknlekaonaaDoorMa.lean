/-
  The message AlterClientQuotasResponse: its schemes, and that the program's functions are as the schemes say.
-/
import Derived.Test.YtieneknlekaonaaDoorL
namespace Go.Proofs.YtieneknlekaonaaDoor
open Go.Msk Go.Proofs
set_option maxRecDepth 100000

def T_AlterClientQuotasResponse : Top := ⟨none, (some 1), 127, 178, 179,
  (.prm .all none (.call 175) .i32 (.int .i32 0) (.lss .all (.flx (.call 176) (.call 177)) 48 [.int .i16 0, .pointer none, .slice none 0 0, .map none] 180 (.prm .all none (.call 181) .i16 (.int .i16 0) (.prm .all (some (.pointer none)) (.flx (.uns (.call 182) (.call 183)) (.uns (.call 184) (.call 185))) .nstr .nstr (.lss .all (.flx (.call 176) (.call 177)) 32 [.string .empty, .pointer none, .map none] 186 (.prm .all (some (.string .empty)) (.uns (.flx (.call 187) (.call 188)) (.flx (.call 189) (.call 190))) .str (.str []) (.prm .all (some (.pointer none)) (.flx (.uns (.call 182) (.call 183)) (.uns (.call 184) (.call 185))) .nstr .nstr (.tags 191))) (.tags 191)))) (.tags 191)))⟩
def tl_AlterClientQuotasResponse : Tl := (.fld (.num true) (.lst (.tell 129) 4 (.fld (.num true) (.fld (.txt 135) (.lst (.tell 192) 3 (.fld .str (.fld (.txt 135) (.tags 239 130 132))) (.tags 193 130 132)))) (.tags 131 130 132)))
theorem dfs_AlterClientQuotasResponse : DfsOk Tryd.prog T_AlterClientQuotasResponse.sc.dfs := ⟨df_call mixed (l := []) (by kernel_rfl) (dfOk_of (by kernel_rfl)) rfl, ⟨df_call mixed (l := []) (by kernel_rfl) (dfOk_of (by kernel_rfl)) rfl, trivial⟩⟩
theorem subs_AlterClientQuotasResponse : SubsOk Tryd.prog tl_AlterClientQuotasResponse.subs := ⟨by kernel_rfl, ⟨by kernel_rfl, trivial⟩⟩
theorem cbs_AlterClientQuotasResponse : CbsOk Tryd.prog tl_AlterClientQuotasResponse.cbs := ⟨⟨by kernel_rfl, by kernel_rfl⟩, ⟨⟨by kernel_rfl, by kernel_rfl⟩, ⟨⟨by kernel_rfl, by kernel_rfl⟩, trivial⟩⟩⟩
theorem msg_AlterClientQuotasResponse : MsgOk Tryd.prog F has ⟨16, 18, 15, 54, 55, 56, 57, 59, 128, 58⟩ T_AlterClientQuotasResponse tl_AlterClientQuotasResponse [.int .i16 0, .int .i32 0, .slice none 0 0, .map none] 1 where
  mx := by kernel_rfl
  maxv := by kernel_rfl
  newp := by kernel_rfl
  setv := by kernel_rfl
  rf := by kernel_rfl
  urf := by kernel_rfl
  tellD := by kernel_rfl
  unsD := by kernel_rfl
  rd := by kernel_rfl
  tell := by kernel_rfl
  dfl := ⟨[], by kernel_rfl, dfOk_of (by kernel_rfl), rfl, rfl, fun _ => rfl⟩
  dfs := dfs_AlterClientQuotasResponse
  okT := by kernel_rfl
  okL := by kernel_rfl
  subs := subs_AlterClientQuotasResponse
  cbs := cbs_AlterClientQuotasResponse
  fits := by kernel_rfl
  small := by kernel_rfl
  len := of_decide_eq_true (by kernel_rfl)
  tlen := of_decide_eq_true (by kernel_rfl)
  most := by omega

end Go.Proofs.YtieneknlekaonaaDoor
