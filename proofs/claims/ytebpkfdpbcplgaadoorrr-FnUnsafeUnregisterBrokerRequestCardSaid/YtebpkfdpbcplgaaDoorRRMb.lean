/-
  The message UnregisterBrokerRequest: its schemes, and that the program's functions are as the schemes say.
-/
import Derived.Test.YtebpkfdpbcplgaaDoorRRL
namespace Go.Proofs.YtebpkfdpbcplgaaDoorRR
open Go.Msk Go.Proofs
set_option maxRecDepth 100000

def T_UnregisterBrokerRequest : Top := ⟨none, (some 0), 60, 68, 69,
  (.prm .all none (.call 74) .i32 (.int .i32 0) (.tags 89))⟩
def tl_UnregisterBrokerRequest : Tl := (.fld (.num true) (.tags 62 57 59))
theorem dfs_UnregisterBrokerRequest : DfsOk Tryd.prog T_UnregisterBrokerRequest.sc.dfs := trivial
theorem subs_UnregisterBrokerRequest : SubsOk Tryd.prog tl_UnregisterBrokerRequest.subs := trivial
theorem cbs_UnregisterBrokerRequest : CbsOk Tryd.prog tl_UnregisterBrokerRequest.cbs := ⟨⟨by kernel_rfl, by kernel_rfl⟩, trivial⟩
theorem msg_UnregisterBrokerRequest : MsgOk Tryd.prog F has ⟨18, 19, 17, 37, 38, 39, 40, 42, 61, 41⟩ T_UnregisterBrokerRequest tl_UnregisterBrokerRequest [.int .i16 0, .int .i32 0, .map none] 0 where
  mx := by kernel_rfl
  maxv := by kernel_rfl
  newp := by kernel_rfl
  setv := by kernel_rfl
  rf := by kernel_rfl
  urf := by kernel_rfl
  tellD := by kernel_rfl
  unsD := by kernel_rfl
  rd := by kernel_rfl
  tell := by kernel_rfl
  dfl := ⟨[], by kernel_rfl, dfOk_of (by kernel_rfl), rfl, rfl, fun _ => rfl⟩
  dfs := dfs_UnregisterBrokerRequest
  okT := by kernel_rfl
  okL := by kernel_rfl
  subs := subs_UnregisterBrokerRequest
  cbs := cbs_UnregisterBrokerRequest
  fits := by kernel_rfl
  small := by kernel_rfl
  len := of_decide_eq_true (by kernel_rfl)
  tlen := of_decide_eq_true (by kernel_rfl)
  most := by omega

end Go.Proofs.YtebpkfdpbcplgaaDoorRR
