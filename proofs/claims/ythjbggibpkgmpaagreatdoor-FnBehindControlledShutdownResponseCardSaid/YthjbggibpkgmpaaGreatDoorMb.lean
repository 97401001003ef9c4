/-
  The message ControlledShutdownResponse: its schemes, and that the program's functions are as the schemes say.
-/
import Derived.Test.YthjbggibpkgmpaaGreatDoorL
namespace Go.Proofs.YthjbggibpkgmpaaGreatDoor
open Go.Msk Go.Proofs
set_option maxRecDepth 100000

def T_ControlledShutdownResponse : Top := ⟨none, (some 3), 145, 184, 185,
  (.prm .all none (.call 195) .i16 (.int .i16 0) (.lss .all (.flx (.call 182) (.call 183)) 32 [.string .empty, .int .i32 0, .map none] 203 (.prm .all (some (.string .empty)) (.uns (.flx (.call 186) (.call 187)) (.flx (.call 188) (.call 189))) .str (.str []) (.prm .all none (.call 194) .i32 (.int .i32 0) (.tags 190))) (.tags 190)))⟩
def a_ControlledShutdownResponse : ATop := ⟨some 3, (.prm .all false .i16 ⟨141, none⟩ (.lss .all false ⟨131, some 132⟩ 3 (.prm .all false .str ⟨133, some 134⟩ (.prm .all false .i32 ⟨140, none⟩ (.tags 136 135 137))) (.tags 136 135 137)))⟩
def fx_ControlledShutdownResponse : List FX := [.mk [(0, 2), (2, (-1)), (3, (-1)), (4, (-1))] none [], .mk [(0, 11), (2, (-1)), (3, (-1)), (4, (-1)), (6, 10)] (some 66) [.mk [(0, 8), (2, (-1)), (3, (-1)), (4, (-1))] none [], .mk [(0, 3), (2, (-1)), (3, (-1)), (4, (-1))] none []]]
theorem dfs_ControlledShutdownResponse : DfsOk Tryz.prog T_ControlledShutdownResponse.sc.dfs := ⟨df_call mixed (l := []) (by kernel_rfl) (dfOk_of (by kernel_rfl)) rfl, trivial⟩
theorem fxok_ControlledShutdownResponse : FX.OkL Tryz.prog fx_ControlledShutdownResponse := ⟨⟨by kernel_rfl, rfl, trivial⟩, ⟨⟨by kernel_rfl, (by show _ = _; kernel_rfl), ⟨⟨by kernel_rfl, rfl, trivial⟩, ⟨⟨by kernel_rfl, rfl, trivial⟩, trivial⟩⟩⟩, trivial⟩⟩
theorem msg_ControlledShutdownResponse : BehOk Tryz.prog F has ⟨24, 64, 65, 67, 68, 146, 69, 26, 25⟩ T_ControlledShutdownResponse a_ControlledShutdownResponse fx_ControlledShutdownResponse 3 [.int .i16 0, .int .i16 0, .slice none 0 0, .map none] 3 where
  mx := by kernel_rfl
  maxv := by kernel_rfl
  newp := by kernel_rfl
  setv := by kernel_rfl
  rf := by kernel_rfl
  rd := by kernel_rfl
  ap := by kernel_rfl
  beh := by kernel_rfl
  sm := by kernel_rfl
  fxs := fxok_ControlledShutdownResponse
  cnt := by kernel_rfl
  dfl := ⟨[], by kernel_rfl, dfOk_of (by kernel_rfl), rfl, rfl, fun _ => rfl⟩
  dfs := dfs_ControlledShutdownResponse
  okT := by kernel_rfl
  okA := by kernel_rfl
  rt := by kernel_rfl
  most := by omega

end Go.Proofs.YthjbggibpkgmpaaGreatDoor
