/-
  The message BrokerHeartbeatResponse: its schemes, and that the program's functions are as the schemes say.
-/
import Derived.Test.YtolcohnlcakchaaDoorL
namespace Go.Proofs.YtolcohnlcakchaaDoor
open Go.Msk Go.Proofs
set_option maxRecDepth 100000

def T_BrokerHeartbeatResponse : Top := ⟨none, (some 0), 17, 999999, 27,
  (.prm .all none (.call 23) .i32 (.int .i32 0) (.prm .all none (.call 24) .i16 (.int .i16 0) (.prm .all none (.call 25) .bool (.bool false) (.prm .all none (.call 25) .bool (.bool true) (.prm .all none (.call 25) .bool (.bool false) (.tags 26))))))⟩
def tl_BrokerHeartbeatResponse : Tl := (.fld (.num true) (.fld (.num true) (.fld (.boo 19) (.fld (.boo 19) (.fld (.boo 19) (.tags 21 20 22))))))
theorem dfs_BrokerHeartbeatResponse : DfsOk Tryd.prog T_BrokerHeartbeatResponse.sc.dfs := trivial
theorem subs_BrokerHeartbeatResponse : SubsOk Tryd.prog tl_BrokerHeartbeatResponse.subs := trivial
theorem cbs_BrokerHeartbeatResponse : CbsOk Tryd.prog tl_BrokerHeartbeatResponse.cbs := ⟨⟨by kernel_rfl, by kernel_rfl⟩, trivial⟩
theorem msg_BrokerHeartbeatResponse : MsgOk Tryd.prog F has ⟨5, 7, 4, 10, 11, 12, 13, 15, 18, 14⟩ T_BrokerHeartbeatResponse tl_BrokerHeartbeatResponse [.int .i16 0, .int .i32 0, .int .i16 0, .bool false, .bool false, .bool false, .map none] 2 where
  mx := by kernel_rfl
  maxv := by kernel_rfl
  newp := by kernel_rfl
  setv := by kernel_rfl
  rf := by kernel_rfl
  urf := by kernel_rfl
  tellD := by kernel_rfl
  unsD := by kernel_rfl
  rd := by kernel_rfl
  tell := by kernel_rfl
  dfl := ⟨[(4, .bool true)], by kernel_rfl, dfOk_of (by kernel_rfl), rfl, rfl, fun _ => rfl⟩
  dfs := dfs_BrokerHeartbeatResponse
  okT := by kernel_rfl
  okL := by kernel_rfl
  subs := subs_BrokerHeartbeatResponse
  cbs := cbs_BrokerHeartbeatResponse
  fits := by kernel_rfl
  small := by kernel_rfl
  len := of_decide_eq_true (by kernel_rfl)
  tlen := of_decide_eq_true (by kernel_rfl)
  most := by omega

end Go.Proofs.YtolcohnlcakchaaDoor
