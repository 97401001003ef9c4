/-
  The message CreateTopicsRequest: its schemes, and that the program's functions are as the schemes say.
-/
import Derived.Test.YtcknmmkgmlkhaaaGreatDoorL
namespace Go.Proofs.YtcknmmkgmlkhaaaGreatDoor
open Go.Msk Go.Proofs
set_option maxRecDepth 100000

def T_CreateTopicsRequest : Top := ⟨none, (some 5), 80, 132, 133,
  (.lss .all (.flx (.call 130) (.call 131)) 80 [.string .empty, .int .i32 0, .int .i16 0, .slice none 0 0, .slice none 0 0, .map none] 173 (.prm .all (some (.string .empty)) (.uns (.flx (.call 135) (.call 136)) (.flx (.call 137) (.call 138))) .str (.str []) (.prm .all none (.call 140) .i32 (.int .i32 0) (.prm .all none (.call 174) .i16 (.int .i16 0) (.lss .all (.flx (.call 130) (.call 131)) 40 [.int .i32 0, .slice none 0 0, .map none] 175 (.prm .all none (.call 140) .i32 (.int .i32 0) (.lsp .all (.flx (.call 130) (.call 131)) 4 (.int .i32 0) none (.call 140) .i32 (.tags 142))) (.lss .all (.flx (.call 130) (.call 131)) 32 [.string .empty, .pointer none, .map none] 176 (.prm .all (some (.string .empty)) (.uns (.flx (.call 135) (.call 136)) (.flx (.call 137) (.call 138))) .str (.str []) (.prm .all (some (.pointer none)) (.flx (.uns (.call 154) (.call 155)) (.uns (.call 156) (.call 157))) .nstr .nstr (.tags 142))) (.tags 142)))))) (.prm .all none (.call 140) .i32 (.int .i32 60000) (.prm (.ge 1) none (.call 161) .bool (.bool false) (.tags 142))))⟩
def tl_CreateTopicsRequest : Tl := (.lst (.tell 123) 6 (.fld .str (.fld (.num true) (.fld (.num true) (.lst (.tell 177) 3 (.fld (.num true) (.lst (.num true) 1 .nil (.tags 204 94 96))) (.lst (.tell 178) 3 (.fld .str (.fld (.txt 105) (.tags 205 94 96))) (.tags 179 94 96)))))) (.fld (.num true) (.fld (.boo 112) (.tags 124 94 96))))
def fx_CreateTopicsRequest : List FX := [.mk [(0, 11), (2, (-1)), (3, (-1)), (4, (-1)), (6, 10)] (some 77) [.mk [(0, 8), (2, (-1)), (3, (-1)), (4, (-1))] none [], .mk [(0, 3), (2, (-1)), (3, (-1)), (4, (-1))] none [], .mk [(0, 2), (2, (-1)), (3, (-1)), (4, (-1))] none [], .mk [(0, 11), (2, (-1)), (3, (-1)), (4, (-1)), (6, 10)] (some 120) [.mk [(0, 3), (2, (-1)), (3, (-1)), (4, (-1))] none [], .mk [(0, 11), (2, (-1)), (3, (-1)), (4, (-1)), (6, 3)] none []], .mk [(0, 11), (2, (-1)), (3, (-1)), (4, (-1)), (6, 10)] (some 121) [.mk [(0, 8), (2, (-1)), (3, (-1)), (4, (-1))] none [], .mk [(0, 8), (2, (-1)), (3, 0), (4, (-1))] none []]], .mk [(0, 3), (2, (-1)), (3, (-1)), (4, (-1)), (5, 60000)] none [], .mk [(0, 0), (1, 1), (2, (-1)), (3, (-1)), (4, (-1))] none []]
theorem dfs_CreateTopicsRequest : DfsOk Tryz.prog T_CreateTopicsRequest.sc.dfs := ⟨df_call mixed (l := []) (by kernel_rfl) (dfOk_of (by kernel_rfl)) rfl, ⟨df_call mixed (l := []) (by kernel_rfl) (dfOk_of (by kernel_rfl)) rfl, ⟨df_call mixed (l := []) (by kernel_rfl) (dfOk_of (by kernel_rfl)) rfl, trivial⟩⟩⟩
theorem subs_CreateTopicsRequest : SubsOk Tryz.prog tl_CreateTopicsRequest.subs := ⟨by kernel_rfl, ⟨by kernel_rfl, ⟨by kernel_rfl, trivial⟩⟩⟩
theorem cbs_CreateTopicsRequest : CbsOk Tryz.prog tl_CreateTopicsRequest.cbs := ⟨⟨by kernel_rfl, by kernel_rfl⟩, ⟨⟨by kernel_rfl, by kernel_rfl⟩, ⟨⟨by kernel_rfl, by kernel_rfl⟩, ⟨⟨by kernel_rfl, by kernel_rfl⟩, trivial⟩⟩⟩⟩
theorem fxok_CreateTopicsRequest : FX.OkL Tryz.prog fx_CreateTopicsRequest := ⟨⟨by kernel_rfl, (by show _ = _; kernel_rfl), ⟨⟨by kernel_rfl, rfl, trivial⟩, ⟨⟨by kernel_rfl, rfl, trivial⟩, ⟨⟨by kernel_rfl, rfl, trivial⟩, ⟨⟨by kernel_rfl, (by show _ = _; kernel_rfl), ⟨⟨by kernel_rfl, rfl, trivial⟩, ⟨⟨by kernel_rfl, rfl, trivial⟩, trivial⟩⟩⟩, ⟨⟨by kernel_rfl, (by show _ = _; kernel_rfl), ⟨⟨by kernel_rfl, rfl, trivial⟩, ⟨⟨by kernel_rfl, rfl, trivial⟩, trivial⟩⟩⟩, trivial⟩⟩⟩⟩⟩⟩, ⟨⟨by kernel_rfl, rfl, trivial⟩, ⟨⟨by kernel_rfl, rfl, trivial⟩, trivial⟩⟩⟩
theorem msg_CreateTopicsRequest : DefOk Tryz.prog F has ⟨30, 75, 76, 78, 79, 122, 81, 32, 31⟩ T_CreateTopicsRequest tl_CreateTopicsRequest fx_CreateTopicsRequest 5 [.int .i16 0, .slice none 0 0, .int .i32 0, .bool false, .map none] 7 1 .i32 60000 where
  mx := by kernel_rfl
  maxv := by kernel_rfl
  newp := by kernel_rfl
  setv := by kernel_rfl
  rf := by kernel_rfl
  rd := by kernel_rfl
  tell := by kernel_rfl
  door := by kernel_rfl
  sm := by kernel_rfl
  fxs := fxok_CreateTopicsRequest
  cnt := by kernel_rfl
  dfl := ⟨[(2, .int .i32 60000)], rfl, by kernel_rfl, dfOk_of (by kernel_rfl), rfl, rfl, fun _ => rfl⟩
  dfs := dfs_CreateTopicsRequest
  okT := by kernel_rfl
  okL := by kernel_rfl
  subs := subs_CreateTopicsRequest
  cbs := cbs_CreateTopicsRequest
  fits := by kernel_rfl
  small := by kernel_rfl
  len := of_decide_eq_true (by kernel_rfl)
  tlen := of_decide_eq_true (by kernel_rfl)
  rv := by kernel_rfl
  set := by kernel_rfl
  most := by omega

end Go.Proofs.YtcknmmkgmlkhaaaGreatDoor
