/-
  The message ShareFetchRequest: its schemes, and that the program's functions are as the schemes say.
-/
import Derived.Test.YtcknmmkgmlkhaaaGreatDoorL
namespace Go.Proofs.YtcknmmkgmlkhaaaGreatDoor
open Go.Msk Go.Proofs
set_option maxRecDepth 100000

def T_ShareFetchRequest : Top := ⟨none, (some 0), 88, 132, 133,
  (.prm .all (some (.pointer none)) (.flx (.uns (.call 154) (.call 155)) (.uns (.call 156) (.call 157))) .nstr .nstr (.prm .all (some (.pointer none)) (.flx (.uns (.call 154) (.call 155)) (.uns (.call 156) (.call 157))) .nstr .nstr (.prm .all none (.call 140) .i32 (.int .i32 0) (.prm .all none (.call 140) .i32 (.int .i32 0) (.prm .all none (.call 140) .i32 (.int .i32 0) (.prm .all none (.call 140) .i32 (.int .i32 2147483647) (.prm (.ge 1) none (.call 140) .i32 (.int .i32 0) (.prm (.ge 1) none (.call 140) .i32 (.int .i32 0) (.prm (.ge 2) none (.call 181) .i8 (.int .i8 0) (.prm (.ge 2) none (.call 161) .bool (.bool false) (.lss .all (.flx (.call 130) (.call 131)) 48 [.int .u8 0, .int .u8 0, .int .u8 0, .int .u8 0, .int .u8 0, .int .u8 0, .int .u8 0, .int .u8 0, .int .u8 0, .int .u8 0, .int .u8 0, .int .u8 0, .int .u8 0, .int .u8 0, .int .u8 0, .int .u8 0, .slice none 0 0, .map none] 182 (.uid .all 159 (.lss .all (.flx (.call 130) (.call 131)) 40 [.int .i32 0, .int .i32 0, .slice none 0 0, .map none] 183 (.prm .all none (.call 140) .i32 (.int .i32 0) (.prm (.rng 0 0) none (.call 140) .i32 (.int .i32 0) (.lss .all (.flx (.call 130) (.call 131)) 48 [.int .i64 0, .int .i64 0, .slice none 0 0, .map none] 184 (.prm .all none (.call 141) .i64 (.int .i64 0) (.prm .all none (.call 141) .i64 (.int .i64 0) (.lsp .all (.flx (.call 130) (.call 131)) 1 (.int .i8 0) none (.call 181) .i8 (.tags 142)))) (.tags 142)))) (.tags 142))) (.lss .all (.flx (.call 130) (.call 131)) 48 [.int .u8 0, .int .u8 0, .int .u8 0, .int .u8 0, .int .u8 0, .int .u8 0, .int .u8 0, .int .u8 0, .int .u8 0, .int .u8 0, .int .u8 0, .int .u8 0, .int .u8 0, .int .u8 0, .int .u8 0, .int .u8 0, .slice none 0 0, .map none] 185 (.uid .all 159 (.lsp .all (.flx (.call 130) (.call 131)) 4 (.int .i32 0) none (.call 140) .i32 (.tags 142))) (.tags 142)))))))))))))⟩
def tl_ShareFetchRequest : Tl := (.fld (.txt 105) (.fld (.txt 105) (.fld (.num true) (.fld (.num true) (.fld (.num true) (.fld (.num true) (.fld (.num true) (.fld (.num true) (.fld (.num true) (.fld (.boo 112) (.lst (.tell 127) 18 (.uid (.lst (.tell 186) 4 (.fld (.num true) (.fld (.num true) (.lst (.tell 206) 4 (.fld (.num false) (.fld (.num false) (.lst (.num true) 1 .nil (.tags 229 94 96)))) (.tags 207 94 96)))) (.tags 187 94 96))) (.lst (.tell 128) 18 (.uid (.lst (.num true) 1 .nil (.tags 188 94 96))) (.tags 129 94 96)))))))))))))
def fx_ShareFetchRequest : List FX := [.mk [(0, 8), (2, (-1)), (3, 0), (4, (-1))] none [], .mk [(0, 8), (2, (-1)), (3, 0), (4, (-1))] none [], .mk [(0, 3), (2, (-1)), (3, (-1)), (4, (-1))] none [], .mk [(0, 3), (2, (-1)), (3, (-1)), (4, (-1))] none [], .mk [(0, 3), (2, (-1)), (3, (-1)), (4, (-1))] none [], .mk [(0, 3), (2, (-1)), (3, (-1)), (4, (-1)), (5, 2147483647)] none [], .mk [(0, 3), (1, 1), (2, (-1)), (3, (-1)), (4, (-1))] none [], .mk [(0, 3), (1, 1), (2, (-1)), (3, (-1)), (4, (-1))] none [], .mk [(0, 1), (1, 2), (2, (-1)), (3, (-1)), (4, (-1))] none [], .mk [(0, 0), (1, 2), (2, (-1)), (3, (-1)), (4, (-1))] none [], .mk [(0, 11), (2, (-1)), (3, (-1)), (4, (-1)), (6, 10)] (some 84) [.mk [(0, 7), (2, (-1)), (3, (-1)), (4, (-1))] none [], .mk [(0, 11), (2, (-1)), (3, (-1)), (4, (-1)), (6, 10)] (some 125) [.mk [(0, 3), (2, (-1)), (3, (-1)), (4, (-1))] none [], .mk [(0, 3), (2, 0), (3, (-1)), (4, (-1))] none [], .mk [(0, 11), (2, (-1)), (3, (-1)), (4, (-1)), (6, 10)] (some 180) [.mk [(0, 4), (2, (-1)), (3, (-1)), (4, (-1))] none [], .mk [(0, 4), (2, (-1)), (3, (-1)), (4, (-1))] none [], .mk [(0, 11), (2, (-1)), (3, (-1)), (4, (-1)), (6, 1)] none []]]], .mk [(0, 11), (2, (-1)), (3, (-1)), (4, (-1)), (6, 10)] (some 85) [.mk [(0, 7), (2, (-1)), (3, (-1)), (4, (-1))] none [], .mk [(0, 11), (2, (-1)), (3, (-1)), (4, (-1)), (6, 3)] none []]]
theorem dfs_ShareFetchRequest : DfsOk Tryz.prog T_ShareFetchRequest.sc.dfs := ⟨df_call mixed (l := []) (by kernel_rfl) (dfOk_of (by kernel_rfl)) rfl, ⟨df_call mixed (l := []) (by kernel_rfl) (dfOk_of (by kernel_rfl)) rfl, ⟨df_call mixed (l := []) (by kernel_rfl) (dfOk_of (by kernel_rfl)) rfl, ⟨df_call mixed (l := []) (by kernel_rfl) (dfOk_of (by kernel_rfl)) rfl, trivial⟩⟩⟩⟩
theorem subs_ShareFetchRequest : SubsOk Tryz.prog tl_ShareFetchRequest.subs := ⟨by kernel_rfl, ⟨by kernel_rfl, ⟨by kernel_rfl, ⟨by kernel_rfl, trivial⟩⟩⟩⟩
theorem cbs_ShareFetchRequest : CbsOk Tryz.prog tl_ShareFetchRequest.cbs := ⟨⟨by kernel_rfl, by kernel_rfl⟩, ⟨⟨by kernel_rfl, by kernel_rfl⟩, ⟨⟨by kernel_rfl, by kernel_rfl⟩, ⟨⟨by kernel_rfl, by kernel_rfl⟩, ⟨⟨by kernel_rfl, by kernel_rfl⟩, trivial⟩⟩⟩⟩⟩
theorem fxok_ShareFetchRequest : FX.OkL Tryz.prog fx_ShareFetchRequest := ⟨⟨by kernel_rfl, rfl, trivial⟩, ⟨⟨by kernel_rfl, rfl, trivial⟩, ⟨⟨by kernel_rfl, rfl, trivial⟩, ⟨⟨by kernel_rfl, rfl, trivial⟩, ⟨⟨by kernel_rfl, rfl, trivial⟩, ⟨⟨by kernel_rfl, rfl, trivial⟩, ⟨⟨by kernel_rfl, rfl, trivial⟩, ⟨⟨by kernel_rfl, rfl, trivial⟩, ⟨⟨by kernel_rfl, rfl, trivial⟩, ⟨⟨by kernel_rfl, rfl, trivial⟩, ⟨⟨by kernel_rfl, (by show _ = _; kernel_rfl), ⟨⟨by kernel_rfl, rfl, trivial⟩, ⟨⟨by kernel_rfl, (by show _ = _; kernel_rfl), ⟨⟨by kernel_rfl, rfl, trivial⟩, ⟨⟨by kernel_rfl, rfl, trivial⟩, ⟨⟨by kernel_rfl, (by show _ = _; kernel_rfl), ⟨⟨by kernel_rfl, rfl, trivial⟩, ⟨⟨by kernel_rfl, rfl, trivial⟩, ⟨⟨by kernel_rfl, rfl, trivial⟩, trivial⟩⟩⟩⟩, trivial⟩⟩⟩⟩, trivial⟩⟩⟩, ⟨⟨by kernel_rfl, (by show _ = _; kernel_rfl), ⟨⟨by kernel_rfl, rfl, trivial⟩, ⟨⟨by kernel_rfl, rfl, trivial⟩, trivial⟩⟩⟩, trivial⟩⟩⟩⟩⟩⟩⟩⟩⟩⟩⟩⟩
theorem msg_ShareFetchRequest : DefOk Tryz.prog F has ⟨33, 82, 83, 86, 87, 126, 89, 35, 34⟩ T_ShareFetchRequest tl_ShareFetchRequest fx_ShareFetchRequest 0 [.int .i16 0, .pointer none, .pointer none, .int .i32 0, .int .i32 0, .int .i32 0, .int .i32 0, .int .i32 0, .int .i32 0, .int .i8 0, .bool false, .slice none 0 0, .slice none 0 0, .map none] 2 5 .i32 2147483647 where
  mx := by kernel_rfl
  maxv := by kernel_rfl
  newp := by kernel_rfl
  setv := by kernel_rfl
  rf := by kernel_rfl
  rd := by kernel_rfl
  tell := by kernel_rfl
  door := by kernel_rfl
  sm := by kernel_rfl
  fxs := fxok_ShareFetchRequest
  cnt := by kernel_rfl
  dfl := ⟨[(6, .int .i32 2147483647)], rfl, by kernel_rfl, dfOk_of (by kernel_rfl), rfl, rfl, fun _ => rfl⟩
  dfs := dfs_ShareFetchRequest
  okT := by kernel_rfl
  okL := by kernel_rfl
  subs := subs_ShareFetchRequest
  cbs := cbs_ShareFetchRequest
  fits := by kernel_rfl
  small := by kernel_rfl
  len := of_decide_eq_true (by kernel_rfl)
  tlen := of_decide_eq_true (by kernel_rfl)
  rv := by kernel_rfl
  set := by kernel_rfl
  most := by omega

end Go.Proofs.YtcknmmkgmlkhaaaGreatDoor
