/-
  The message DeleteTopicsRequest: its schemes, and that the program's functions are as the schemes say.
-/
import Derived.Test.YtcknmmkgmlkhaaaGreatDoorL
namespace Go.Proofs.YtcknmmkgmlkhaaaGreatDoor
open Go.Msk Go.Proofs
set_option maxRecDepth 100000

def T_DeleteTopicsRequest : Top := ⟨none, (some 4), 58, 132, 133,
  (.lsp (.rng 0 5) (.flx (.call 130) (.call 131)) 16 (.str []) (some (.string .empty)) (.uns (.flx (.call 135) (.call 136)) (.flx (.call 137) (.call 138))) .str (.lss (.ge 6) (.flx (.call 130) (.call 131)) 32 [.pointer none, .int .u8 0, .int .u8 0, .int .u8 0, .int .u8 0, .int .u8 0, .int .u8 0, .int .u8 0, .int .u8 0, .int .u8 0, .int .u8 0, .int .u8 0, .int .u8 0, .int .u8 0, .int .u8 0, .int .u8 0, .int .u8 0, .map none] 158 (.prm .all (some (.pointer none)) (.flx (.uns (.call 154) (.call 155)) (.uns (.call 156) (.call 157))) .nstr .nstr (.uid .all 159 (.tags 142))) (.prm .all none (.call 140) .i32 (.int .i32 15000) (.tags 142))))⟩
def tl_DeleteTopicsRequest : Tl := (.lst (.str) 1 .nil (.lst (.tell 108) 18 (.fld (.txt 105) (.uid (.tags 160 94 96))) (.fld (.num true) (.tags 109 94 96))))
def fx_DeleteTopicsRequest : List FX := [.mk [(0, 11), (2, 5), (3, (-1)), (4, (-1)), (6, 8)] none [], .mk [(0, 11), (1, 6), (2, (-1)), (3, (-1)), (4, (-1)), (6, 10)] (some 55) [.mk [(0, 8), (2, (-1)), (3, 0), (4, (-1))] none [], .mk [(0, 7), (2, (-1)), (3, (-1)), (4, (-1))] none []], .mk [(0, 3), (2, (-1)), (3, (-1)), (4, (-1)), (5, 15000)] none []]
theorem dfs_DeleteTopicsRequest : DfsOk Tryz.prog T_DeleteTopicsRequest.sc.dfs := ⟨df_call mixed (l := []) (by kernel_rfl) (dfOk_of (by kernel_rfl)) rfl, trivial⟩
theorem subs_DeleteTopicsRequest : SubsOk Tryz.prog tl_DeleteTopicsRequest.subs := ⟨by kernel_rfl, trivial⟩
theorem cbs_DeleteTopicsRequest : CbsOk Tryz.prog tl_DeleteTopicsRequest.cbs := ⟨⟨by kernel_rfl, by kernel_rfl⟩, ⟨⟨by kernel_rfl, by kernel_rfl⟩, trivial⟩⟩
theorem fxok_DeleteTopicsRequest : FX.OkL Tryz.prog fx_DeleteTopicsRequest := ⟨⟨by kernel_rfl, rfl, trivial⟩, ⟨⟨by kernel_rfl, (by show _ = _; kernel_rfl), ⟨⟨by kernel_rfl, rfl, trivial⟩, ⟨⟨by kernel_rfl, rfl, trivial⟩, trivial⟩⟩⟩, ⟨⟨by kernel_rfl, rfl, trivial⟩, trivial⟩⟩⟩
theorem msg_DeleteTopicsRequest : DefOk Tryz.prog F has ⟨21, 53, 54, 56, 57, 107, 59, 23, 22⟩ T_DeleteTopicsRequest tl_DeleteTopicsRequest fx_DeleteTopicsRequest 4 [.int .i16 0, .slice none 0 0, .slice none 0 0, .int .i32 0, .map none] 6 2 .i32 15000 where
  mx := by kernel_rfl
  maxv := by kernel_rfl
  newp := by kernel_rfl
  setv := by kernel_rfl
  rf := by kernel_rfl
  rd := by kernel_rfl
  tell := by kernel_rfl
  door := by kernel_rfl
  sm := by kernel_rfl
  fxs := fxok_DeleteTopicsRequest
  cnt := by kernel_rfl
  dfl := ⟨[(3, .int .i32 15000)], rfl, by kernel_rfl, dfOk_of (by kernel_rfl), rfl, rfl, fun _ => rfl⟩
  dfs := dfs_DeleteTopicsRequest
  okT := by kernel_rfl
  okL := by kernel_rfl
  subs := subs_DeleteTopicsRequest
  cbs := cbs_DeleteTopicsRequest
  fits := by kernel_rfl
  small := by kernel_rfl
  len := of_decide_eq_true (by kernel_rfl)
  tlen := of_decide_eq_true (by kernel_rfl)
  rv := by kernel_rfl
  set := by kernel_rfl
  most := by omega

end Go.Proofs.YtcknmmkgmlkhaaaGreatDoor
