/-
  The message InitProducerIDResponse: its schemes, and that the program's functions are as the schemes say.
-/
import Derived.Test.YtieneknlekaonaaDoorL
namespace Go.Proofs.YtieneknlekaonaaDoor
open Go.Msk Go.Proofs
set_option maxRecDepth 100000

def T_InitProducerIDResponse : Top := ⟨none, (some 2), 152, 178, 179,
  (.prm .all none (.call 175) .i32 (.int .i32 0) (.prm .all none (.call 181) .i16 (.int .i16 0) (.prm .all none (.call 205) .i64 (.int .i64 (-1)) (.prm .all none (.call 181) .i16 (.int .i16 0) (.tags 191)))))⟩
def tl_InitProducerIDResponse : Tl := (.fld (.num true) (.fld (.num true) (.fld (.num false) (.fld (.num true) (.tags 154 130 132)))))
theorem dfs_InitProducerIDResponse : DfsOk Tryd.prog T_InitProducerIDResponse.sc.dfs := trivial
theorem subs_InitProducerIDResponse : SubsOk Tryd.prog tl_InitProducerIDResponse.subs := trivial
theorem cbs_InitProducerIDResponse : CbsOk Tryd.prog tl_InitProducerIDResponse.cbs := ⟨⟨by kernel_rfl, by kernel_rfl⟩, trivial⟩
theorem msg_InitProducerIDResponse : MsgOk Tryd.prog F has ⟨37, 38, 36, 91, 92, 93, 94, 96, 153, 95⟩ T_InitProducerIDResponse tl_InitProducerIDResponse [.int .i16 0, .int .i32 0, .int .i16 0, .int .i64 0, .int .i16 0, .map none] 5 where
  mx := by kernel_rfl
  maxv := by kernel_rfl
  newp := by kernel_rfl
  setv := by kernel_rfl
  rf := by kernel_rfl
  urf := by kernel_rfl
  tellD := by kernel_rfl
  unsD := by kernel_rfl
  rd := by kernel_rfl
  tell := by kernel_rfl
  dfl := ⟨[(3, .int .i64 (-1))], by kernel_rfl, dfOk_of (by kernel_rfl), rfl, rfl, fun _ => rfl⟩
  dfs := dfs_InitProducerIDResponse
  okT := by kernel_rfl
  okL := by kernel_rfl
  subs := subs_InitProducerIDResponse
  cbs := cbs_InitProducerIDResponse
  fits := by kernel_rfl
  small := by kernel_rfl
  len := of_decide_eq_true (by kernel_rfl)
  tlen := of_decide_eq_true (by kernel_rfl)
  most := by omega

end Go.Proofs.YtieneknlekaonaaDoor
