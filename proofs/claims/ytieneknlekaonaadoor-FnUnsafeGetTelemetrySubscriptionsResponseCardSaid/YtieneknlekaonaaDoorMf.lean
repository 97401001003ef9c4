/-
  The message GetTelemetrySubscriptionsResponse: its schemes, and that the program's functions are as the schemes say.
-/
import Derived.Test.YtieneknlekaonaaDoorL
namespace Go.Proofs.YtieneknlekaonaaDoor
open Go.Msk Go.Proofs
set_option maxRecDepth 100000

def T_GetTelemetrySubscriptionsResponse : Top := ⟨none, (some 0), 149, 178, 179,
  (.prm .all none (.call 175) .i32 (.int .i32 0) (.prm .all none (.call 181) .i16 (.int .i16 0) (.uid .all 208 (.prm .all none (.call 175) .i32 (.int .i32 0) (.lsp .all (.flx (.call 176) (.call 177)) 1 (.int .i8 0) none (.call 197) .i8 (.prm .all none (.call 175) .i32 (.int .i32 0) (.prm .all none (.call 175) .i32 (.int .i32 0) (.prm .all none (.call 201) .bool (.bool false) (.lsp .all (.flx (.call 176) (.call 177)) 16 (.str []) (some (.string .empty)) (.uns (.flx (.call 187) (.call 188)) (.flx (.call 189) (.call 190))) .str (.tags 191))))))))))⟩
def tl_GetTelemetrySubscriptionsResponse : Tl := (.fld (.num true) (.fld (.num true) (.uid (.fld (.num true) (.lst (.num true) 1 .nil (.fld (.num true) (.fld (.num true) (.fld (.boo 140) (.lst (.str) 1 .nil (.tags 151 130 132))))))))))
theorem dfs_GetTelemetrySubscriptionsResponse : DfsOk Tryd.prog T_GetTelemetrySubscriptionsResponse.sc.dfs := trivial
theorem subs_GetTelemetrySubscriptionsResponse : SubsOk Tryd.prog tl_GetTelemetrySubscriptionsResponse.subs := trivial
theorem cbs_GetTelemetrySubscriptionsResponse : CbsOk Tryd.prog tl_GetTelemetrySubscriptionsResponse.cbs := ⟨⟨by kernel_rfl, by kernel_rfl⟩, trivial⟩
theorem msg_GetTelemetrySubscriptionsResponse : MsgOk Tryd.prog F has ⟨34, 35, 33, 85, 86, 87, 88, 90, 150, 89⟩ T_GetTelemetrySubscriptionsResponse tl_GetTelemetrySubscriptionsResponse [.int .i16 0, .int .i32 0, .int .i16 0, .int .u8 0, .int .u8 0, .int .u8 0, .int .u8 0, .int .u8 0, .int .u8 0, .int .u8 0, .int .u8 0, .int .u8 0, .int .u8 0, .int .u8 0, .int .u8 0, .int .u8 0, .int .u8 0, .int .u8 0, .int .u8 0, .int .i32 0, .slice none 0 0, .int .i32 0, .int .i32 0, .bool false, .slice none 0 0, .map none] 0 where
  mx := by kernel_rfl
  maxv := by kernel_rfl
  newp := by kernel_rfl
  setv := by kernel_rfl
  rf := by kernel_rfl
  urf := by kernel_rfl
  tellD := by kernel_rfl
  unsD := by kernel_rfl
  rd := by kernel_rfl
  tell := by kernel_rfl
  dfl := ⟨[], by kernel_rfl, dfOk_of (by kernel_rfl), rfl, rfl, fun _ => rfl⟩
  dfs := dfs_GetTelemetrySubscriptionsResponse
  okT := by kernel_rfl
  okL := by kernel_rfl
  subs := subs_GetTelemetrySubscriptionsResponse
  cbs := cbs_GetTelemetrySubscriptionsResponse
  fits := by kernel_rfl
  small := by kernel_rfl
  len := of_decide_eq_true (by kernel_rfl)
  tlen := of_decide_eq_true (by kernel_rfl)
  most := by omega

end Go.Proofs.YtieneknlekaonaaDoor
