/-
  The message StopReplicaRequest: its schemes, and that the program's functions are as the schemes say.
-/
import Derived.Test.YtcknmmkgmlkhaaaGreatDoorL
namespace Go.Proofs.YtcknmmkgmlkhaaaGreatDoor
open Go.Msk Go.Proofs
set_option maxRecDepth 100000

def T_StopReplicaRequest : Top := ⟨none, (some 2), 65, 132, 133,
  (.prm .all none (.call 140) .i32 (.int .i32 0) (.prm .all none (.call 140) .i32 (.int .i32 0) (.prm (.ge 4) none (.call 161) .bool (.bool false) (.prm (.ge 1) none (.call 141) .i64 (.int .i64 (-1)) (.prm (.rng 0 2) none (.call 161) .bool (.bool false) (.lss .all (.flx (.call 130) (.call 131)) 80 [.string .empty, .int .i32 0, .slice none 0 0, .slice none 0 0, .map none] 162 (.prm .all (some (.string .empty)) (.uns (.flx (.call 135) (.call 136)) (.flx (.call 137) (.call 138))) .str (.str []) (.prm (.rng 0 0) none (.call 140) .i32 (.int .i32 0) (.lsp (.rng 1 2) (.flx (.call 130) (.call 131)) 4 (.int .i32 0) none (.call 140) .i32 (.lss (.ge 3) (.flx (.call 130) (.call 131)) 24 [.int .i32 0, .int .i32 0, .bool false, .map none] 163 (.prm .all none (.call 140) .i32 (.int .i32 0) (.prm .all none (.call 140) .i32 (.int .i32 (-1)) (.prm .all none (.call 161) .bool (.bool false) (.tags 142)))) (.tags 142))))) (.tags 142)))))))⟩
def tl_StopReplicaRequest : Tl := (.fld (.num true) (.fld (.num true) (.fld (.boo 112) (.fld (.num false) (.fld (.boo 112) (.lst (.tell 113) 5 (.fld .str (.fld (.num true) (.lst (.num true) 1 .nil (.lst (.tell 164) 4 (.fld (.num true) (.fld (.num true) (.fld (.boo 112) (.tags 201 94 96)))) (.tags 165 94 96))))) (.tags 114 94 96)))))))
def fx_StopReplicaRequest : List FX := [.mk [(0, 3), (2, (-1)), (3, (-1)), (4, (-1))] none [], .mk [(0, 3), (2, (-1)), (3, (-1)), (4, (-1))] none [], .mk [(0, 0), (1, 4), (2, (-1)), (3, (-1)), (4, (-1))] none [], .mk [(0, 4), (1, 1), (2, (-1)), (3, (-1)), (4, (-1)), (5, (-1))] none [], .mk [(0, 0), (2, 2), (3, (-1)), (4, (-1))] none [], .mk [(0, 11), (2, (-1)), (3, (-1)), (4, (-1)), (6, 10)] (some 62) [.mk [(0, 8), (2, (-1)), (3, (-1)), (4, (-1))] none [], .mk [(0, 3), (2, 0), (3, (-1)), (4, (-1))] none [], .mk [(0, 11), (1, 1), (2, 2), (3, (-1)), (4, (-1)), (6, 3)] none [], .mk [(0, 11), (1, 3), (2, (-1)), (3, (-1)), (4, (-1)), (6, 10)] (some 110) [.mk [(0, 3), (2, (-1)), (3, (-1)), (4, (-1))] none [], .mk [(0, 3), (2, (-1)), (3, (-1)), (4, (-1)), (5, (-1))] none [], .mk [(0, 0), (2, (-1)), (3, (-1)), (4, (-1))] none []]]]
theorem dfs_StopReplicaRequest : DfsOk Tryz.prog T_StopReplicaRequest.sc.dfs := ⟨df_call mixed (l := []) (by kernel_rfl) (dfOk_of (by kernel_rfl)) rfl, ⟨df_call mixed (l := [(1, .int .i32 (-1))]) (by kernel_rfl) (dfOk_of (by kernel_rfl)) rfl, trivial⟩⟩
theorem subs_StopReplicaRequest : SubsOk Tryz.prog tl_StopReplicaRequest.subs := ⟨by kernel_rfl, ⟨by kernel_rfl, trivial⟩⟩
theorem cbs_StopReplicaRequest : CbsOk Tryz.prog tl_StopReplicaRequest.cbs := ⟨⟨by kernel_rfl, by kernel_rfl⟩, ⟨⟨by kernel_rfl, by kernel_rfl⟩, ⟨⟨by kernel_rfl, by kernel_rfl⟩, trivial⟩⟩⟩
theorem fxok_StopReplicaRequest : FX.OkL Tryz.prog fx_StopReplicaRequest := ⟨⟨by kernel_rfl, rfl, trivial⟩, ⟨⟨by kernel_rfl, rfl, trivial⟩, ⟨⟨by kernel_rfl, rfl, trivial⟩, ⟨⟨by kernel_rfl, rfl, trivial⟩, ⟨⟨by kernel_rfl, rfl, trivial⟩, ⟨⟨by kernel_rfl, (by show _ = _; kernel_rfl), ⟨⟨by kernel_rfl, rfl, trivial⟩, ⟨⟨by kernel_rfl, rfl, trivial⟩, ⟨⟨by kernel_rfl, rfl, trivial⟩, ⟨⟨by kernel_rfl, (by show _ = _; kernel_rfl), ⟨⟨by kernel_rfl, rfl, trivial⟩, ⟨⟨by kernel_rfl, rfl, trivial⟩, ⟨⟨by kernel_rfl, rfl, trivial⟩, trivial⟩⟩⟩⟩, trivial⟩⟩⟩⟩⟩, trivial⟩⟩⟩⟩⟩⟩
theorem msg_StopReplicaRequest : DefOk Tryz.prog F has ⟨24, 60, 61, 63, 64, 111, 66, 26, 25⟩ T_StopReplicaRequest tl_StopReplicaRequest fx_StopReplicaRequest 2 [.int .i16 0, .int .i32 0, .int .i32 0, .bool false, .int .i64 0, .bool false, .slice none 0 0, .map none] 4 3 .i64 (-1) where
  mx := by kernel_rfl
  maxv := by kernel_rfl
  newp := by kernel_rfl
  setv := by kernel_rfl
  rf := by kernel_rfl
  rd := by kernel_rfl
  tell := by kernel_rfl
  door := by kernel_rfl
  sm := by kernel_rfl
  fxs := fxok_StopReplicaRequest
  cnt := by kernel_rfl
  dfl := ⟨[(4, .int .i64 (-1))], rfl, by kernel_rfl, dfOk_of (by kernel_rfl), rfl, rfl, fun _ => rfl⟩
  dfs := dfs_StopReplicaRequest
  okT := by kernel_rfl
  okL := by kernel_rfl
  subs := subs_StopReplicaRequest
  cbs := cbs_StopReplicaRequest
  fits := by kernel_rfl
  small := by kernel_rfl
  len := of_decide_eq_true (by kernel_rfl)
  tlen := of_decide_eq_true (by kernel_rfl)
  rv := by kernel_rfl
  set := by kernel_rfl
  most := by omega

end Go.Proofs.YtcknmmkgmlkhaaaGreatDoor
