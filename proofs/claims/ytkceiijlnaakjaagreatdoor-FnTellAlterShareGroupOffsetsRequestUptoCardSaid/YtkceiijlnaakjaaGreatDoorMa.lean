/-
  The message AlterShareGroupOffsetsRequest: its schemes, and that the program's functions are as the schemes say.
-/
import Derived.Test.YtkceiijlnaakjaaGreatDoorL
namespace Go.Proofs.YtkceiijlnaakjaaGreatDoor
open Go.Msk Go.Proofs
set_option maxRecDepth 100000

def T_AlterShareGroupOffsetsRequest : Top := ⟨none, (some 0), 84, 107, 108,
  (.prm .all (some (.string .empty)) (.uns (.flx (.call 110) (.call 111)) (.flx (.call 112) (.call 113))) .str (.str []) (.lss .all (.flx (.call 105) (.call 106)) 48 [.string .empty, .slice none 0 0, .map none] 126 (.prm .all (some (.string .empty)) (.uns (.flx (.call 110) (.call 111)) (.flx (.call 112) (.call 113))) .str (.str []) (.lss .all (.flx (.call 105) (.call 106)) 24 [.int .i32 0, .int .i64 0, .map none] 127 (.prm .all none (.call 104) .i32 (.int .i32 0) (.prm .all none (.call 128) .i64 (.int .i64 0) (.tags 119))) (.tags 119))) (.tags 119)))⟩
def tl_AlterShareGroupOffsetsRequest : Tl := (.fld .str (.lst (.tell 87) 3 (.fld .str (.lst (.tell 129) 3 (.fld (.num true) (.fld (.num false) (.tags 164 73 75))) (.tags 130 73 75))) (.tags 88 73 75)))
def fx_AlterShareGroupOffsetsRequest : List FX := [.mk [(0, 8), (2, (-1)), (3, (-1)), (4, (-1))] none [], .mk [(0, 11), (2, (-1)), (3, (-1)), (4, (-1)), (6, 10)] (some 47) [.mk [(0, 8), (2, (-1)), (3, (-1)), (4, (-1))] none [], .mk [(0, 11), (2, (-1)), (3, (-1)), (4, (-1)), (6, 10)] (some 85) [.mk [(0, 3), (2, (-1)), (3, (-1)), (4, (-1))] none [], .mk [(0, 4), (2, (-1)), (3, (-1)), (4, (-1))] none []]]]
theorem dfs_AlterShareGroupOffsetsRequest : DfsOk Tryz.prog T_AlterShareGroupOffsetsRequest.sc.dfs := ⟨df_call mixed (l := []) (by kernel_rfl) (dfOk_of (by kernel_rfl)) rfl, ⟨df_call mixed (l := []) (by kernel_rfl) (dfOk_of (by kernel_rfl)) rfl, trivial⟩⟩
theorem subs_AlterShareGroupOffsetsRequest : SubsOk Tryz.prog tl_AlterShareGroupOffsetsRequest.subs := ⟨by kernel_rfl, ⟨by kernel_rfl, trivial⟩⟩
theorem cbs_AlterShareGroupOffsetsRequest : CbsOk Tryz.prog tl_AlterShareGroupOffsetsRequest.cbs := ⟨⟨by kernel_rfl, by kernel_rfl⟩, ⟨⟨by kernel_rfl, by kernel_rfl⟩, ⟨⟨by kernel_rfl, by kernel_rfl⟩, trivial⟩⟩⟩
theorem fxok_AlterShareGroupOffsetsRequest : FX.OkL Tryz.prog fx_AlterShareGroupOffsetsRequest := ⟨⟨by kernel_rfl, rfl, trivial⟩, ⟨⟨by kernel_rfl, (by show _ = _; kernel_rfl), ⟨⟨by kernel_rfl, rfl, trivial⟩, ⟨⟨by kernel_rfl, (by show _ = _; kernel_rfl), ⟨⟨by kernel_rfl, rfl, trivial⟩, ⟨⟨by kernel_rfl, rfl, trivial⟩, trivial⟩⟩⟩, trivial⟩⟩⟩, trivial⟩⟩
theorem msg_AlterShareGroupOffsetsRequest : TellOk Tryz.prog F has ⟨17, 45, 46, 48, 49, 86, 50, 19, 18⟩ T_AlterShareGroupOffsetsRequest tl_AlterShareGroupOffsetsRequest fx_AlterShareGroupOffsetsRequest 0 [.int .i16 0, .string .empty, .slice none 0 0, .map none] 0 where
  mx := by kernel_rfl
  maxv := by kernel_rfl
  newp := by kernel_rfl
  setv := by kernel_rfl
  rf := by kernel_rfl
  rd := by kernel_rfl
  tell := by kernel_rfl
  door := by kernel_rfl
  sm := by kernel_rfl
  fxs := fxok_AlterShareGroupOffsetsRequest
  cnt := by kernel_rfl
  dfl := ⟨[], by kernel_rfl, dfOk_of (by kernel_rfl), rfl, rfl, fun _ => rfl⟩
  dfs := dfs_AlterShareGroupOffsetsRequest
  okT := by kernel_rfl
  okL := by kernel_rfl
  subs := subs_AlterShareGroupOffsetsRequest
  cbs := cbs_AlterShareGroupOffsetsRequest
  fits := by kernel_rfl
  small := by kernel_rfl
  len := of_decide_eq_true (by kernel_rfl)
  tlen := of_decide_eq_true (by kernel_rfl)
  rv := by kernel_rfl
  told := by kernel_rfl
  most := by omega

end Go.Proofs.YtkceiijlnaakjaaGreatDoor
