/-
  The message PushTelemetryResponse: its schemes, and that the program's functions are as the schemes say.
-/
import Derived.Test.YtkceiijlnaakjaaDoorL
namespace Go.Proofs.YtkceiijlnaakjaaDoor
open Go.Msk Go.Proofs
set_option maxRecDepth 100000

def T_PushTelemetryResponse : Top := ⟨none, (some 0), 29, 999999, 45,
  (.prm .all none (.call 42) .i32 (.int .i32 0) (.prm .all none (.call 43) .i16 (.int .i16 0) (.tags 44)))⟩
def tl_PushTelemetryResponse : Tl := (.fld (.num true) (.fld (.num true) (.tags 32 31 33)))
def fx_PushTelemetryResponse : List FX := [.mk [(0, 3), (2, (-1)), (3, (-1)), (4, (-1))] none [], .mk [(0, 2), (2, (-1)), (3, (-1)), (4, (-1))] none []]
theorem dfs_PushTelemetryResponse : DfsOk Tryd.prog T_PushTelemetryResponse.sc.dfs := trivial
theorem subs_PushTelemetryResponse : SubsOk Tryd.prog tl_PushTelemetryResponse.subs := trivial
theorem cbs_PushTelemetryResponse : CbsOk Tryd.prog tl_PushTelemetryResponse.cbs := ⟨⟨by kernel_rfl, by kernel_rfl⟩, trivial⟩
theorem fxok_PushTelemetryResponse : FX.OkL Tryd.prog fx_PushTelemetryResponse := ⟨⟨by kernel_rfl, rfl, trivial⟩, ⟨⟨by kernel_rfl, rfl, trivial⟩, trivial⟩⟩
theorem msg_PushTelemetryResponse : TellOk Tryd.prog F has ⟨5, 14, 15, 16, 17, 30, 18, 8, 6⟩ T_PushTelemetryResponse tl_PushTelemetryResponse fx_PushTelemetryResponse 0 [.int .i16 0, .int .i32 0, .int .i16 0, .map none] 0 where
  mx := by kernel_rfl
  maxv := by kernel_rfl
  newp := by kernel_rfl
  setv := by kernel_rfl
  rf := by kernel_rfl
  rd := by kernel_rfl
  tell := by kernel_rfl
  door := by kernel_rfl
  sm := by kernel_rfl
  fxs := fxok_PushTelemetryResponse
  cnt := by kernel_rfl
  dfl := ⟨[], by kernel_rfl, dfOk_of (by kernel_rfl), rfl, rfl, fun _ => rfl⟩
  dfs := dfs_PushTelemetryResponse
  okT := by kernel_rfl
  okL := by kernel_rfl
  subs := subs_PushTelemetryResponse
  cbs := cbs_PushTelemetryResponse
  fits := by kernel_rfl
  small := by kernel_rfl
  len := of_decide_eq_true (by kernel_rfl)
  tlen := of_decide_eq_true (by kernel_rfl)
  rv := by kernel_rfl
  told := by kernel_rfl
  most := by omega

end Go.Proofs.YtkceiijlnaakjaaDoor
