/-
  The message ReadShareGroupStateSummaryRequest: its schemes, and that the program's functions are as the schemes say.
-/
import Derived.Test.YtieneknlekaonaaDoorL
namespace Go.Proofs.YtieneknlekaonaaDoor
open Go.Msk Go.Proofs
set_option maxRecDepth 100000

def T_ReadShareGroupStateSummaryRequest : Top := ⟨none, (some 0), 168, 178, 179,
  (.prm .all (some (.string .empty)) (.uns (.flx (.call 187) (.call 188)) (.flx (.call 189) (.call 190))) .str (.str []) (.lss .all (.flx (.call 176) (.call 177)) 48 [.int .u8 0, .int .u8 0, .int .u8 0, .int .u8 0, .int .u8 0, .int .u8 0, .int .u8 0, .int .u8 0, .int .u8 0, .int .u8 0, .int .u8 0, .int .u8 0, .int .u8 0, .int .u8 0, .int .u8 0, .int .u8 0, .slice none 0 0, .map none] 229 (.uid .all 208 (.lss .all (.flx (.call 176) (.call 177)) 16 [.int .i32 0, .int .i32 0, .map none] 230 (.prm .all none (.call 175) .i32 (.int .i32 0) (.prm .all none (.call 175) .i32 (.int .i32 0) (.tags 191))) (.tags 191))) (.tags 191)))⟩
def tl_ReadShareGroupStateSummaryRequest : Tl := (.fld .str (.lst (.tell 170) 18 (.uid (.lst (.tell 231) 3 (.fld (.num true) (.fld (.num true) (.tags 253 130 132))) (.tags 232 130 132))) (.tags 171 130 132)))
theorem dfs_ReadShareGroupStateSummaryRequest : DfsOk Tryd.prog T_ReadShareGroupStateSummaryRequest.sc.dfs := ⟨df_call mixed (l := []) (by kernel_rfl) (dfOk_of (by kernel_rfl)) rfl, ⟨df_call mixed (l := []) (by kernel_rfl) (dfOk_of (by kernel_rfl)) rfl, trivial⟩⟩
theorem subs_ReadShareGroupStateSummaryRequest : SubsOk Tryd.prog tl_ReadShareGroupStateSummaryRequest.subs := ⟨by kernel_rfl, ⟨by kernel_rfl, trivial⟩⟩
theorem cbs_ReadShareGroupStateSummaryRequest : CbsOk Tryd.prog tl_ReadShareGroupStateSummaryRequest.cbs := ⟨⟨by kernel_rfl, by kernel_rfl⟩, ⟨⟨by kernel_rfl, by kernel_rfl⟩, ⟨⟨by kernel_rfl, by kernel_rfl⟩, trivial⟩⟩⟩
theorem msg_ReadShareGroupStateSummaryRequest : MsgOk Tryd.prog F has ⟨49, 50, 48, 115, 116, 117, 118, 120, 169, 119⟩ T_ReadShareGroupStateSummaryRequest tl_ReadShareGroupStateSummaryRequest [.int .i16 0, .string .empty, .slice none 0 0, .map none] 1 where
  mx := by kernel_rfl
  maxv := by kernel_rfl
  newp := by kernel_rfl
  setv := by kernel_rfl
  rf := by kernel_rfl
  urf := by kernel_rfl
  tellD := by kernel_rfl
  unsD := by kernel_rfl
  rd := by kernel_rfl
  tell := by kernel_rfl
  dfl := ⟨[], by kernel_rfl, dfOk_of (by kernel_rfl), rfl, rfl, fun _ => rfl⟩
  dfs := dfs_ReadShareGroupStateSummaryRequest
  okT := by kernel_rfl
  okL := by kernel_rfl
  subs := subs_ReadShareGroupStateSummaryRequest
  cbs := cbs_ReadShareGroupStateSummaryRequest
  fits := by kernel_rfl
  small := by kernel_rfl
  len := of_decide_eq_true (by kernel_rfl)
  tlen := of_decide_eq_true (by kernel_rfl)
  most := by omega

end Go.Proofs.YtieneknlekaonaaDoor
