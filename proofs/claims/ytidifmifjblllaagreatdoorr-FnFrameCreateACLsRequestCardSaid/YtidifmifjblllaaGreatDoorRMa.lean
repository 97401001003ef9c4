/-
  The message CreateACLsRequest: its schemes, and that the program's functions are as the schemes say.
-/
import Derived.Test.YtidifmifjblllaaGreatDoorRL
namespace Go.Proofs.YtidifmifjblllaaGreatDoorR
open Go.Msk Go.Proofs
set_option maxRecDepth 100000

def T_CreateACLsRequest : Top := ⟨none, (some 2), 24, 44, 45,
  (.lss .all (.flx (.call 42) (.call 43)) ⟨80, none⟩ [.int .i8 0, .string .empty, .int .i8 0, .string .empty, .string .empty, .int .i8 0, .int .i8 0, .map none] 46 (.enm .all (.int .i8 0) (.call 47) .i8 (.int .i8 0) (.prm .all (some (.string .empty)) (.uns (.flx (.call 48) (.call 49)) (.flx (.call 50) (.call 51))) .str (.str []) (.enm (.ge 1) (.int .i8 0) (.call 47) .i8 (.int .i8 3) (.prm .all (some (.string .empty)) (.uns (.flx (.call 48) (.call 49)) (.flx (.call 50) (.call 51))) .str (.str []) (.prm .all (some (.string .empty)) (.uns (.flx (.call 48) (.call 49)) (.flx (.call 50) (.call 51))) .str (.str []) (.enm .all (.int .i8 0) (.call 47) .i8 (.int .i8 0) (.enm .all (.int .i8 0) (.call 47) .i8 (.int .i8 0) (.tags 52)))))))) (.tags 52))⟩
def a_CreateACLsRequest : ATop := ⟨some 2, (.lss .all false ⟨89, some 90⟩ 8 (.prm .all true .i8 ⟨91, none⟩ (.prm .all false .str ⟨92, some 65⟩ (.prm (.ge 1) true .i8 ⟨91, none⟩ (.prm .all false .str ⟨92, some 65⟩ (.prm .all false .str ⟨92, some 65⟩ (.prm .all true .i8 ⟨91, none⟩ (.prm .all true .i8 ⟨91, none⟩ (.tags 94 93 95)))))))) (.tags 94 93 95))⟩
def fx_CreateACLsRequest : List FX := [.mk [(0, 11), (2, (-1)), (3, (-1)), (4, (-1)), (6, 10)] (some 17) [.mk [(0, 1), (2, (-1)), (3, (-1)), (4, (-1))] none [], .mk [(0, 8), (2, (-1)), (3, (-1)), (4, (-1))] none [], .mk [(0, 1), (1, 1), (2, (-1)), (3, (-1)), (4, (-1)), (5, 3)] none [], .mk [(0, 8), (2, (-1)), (3, (-1)), (4, (-1))] none [], .mk [(0, 8), (2, (-1)), (3, (-1)), (4, (-1))] none [], .mk [(0, 1), (2, (-1)), (3, (-1)), (4, (-1))] none [], .mk [(0, 1), (2, (-1)), (3, (-1)), (4, (-1))] none []]]
theorem dfs_CreateACLsRequest : DfsOk Tryz.prog T_CreateACLsRequest.sc.dfs := ⟨df_call mixed (l := [(2, .int .i8 3)]) (by kernel_rfl) (dfOk_of (by kernel_rfl)) rfl, trivial⟩
theorem fxok_CreateACLsRequest : FX.OkL Tryz.prog fx_CreateACLsRequest := ⟨⟨by kernel_rfl, (by show _ = _; kernel_rfl), ⟨⟨by kernel_rfl, rfl, trivial⟩, ⟨⟨by kernel_rfl, rfl, trivial⟩, ⟨⟨by kernel_rfl, rfl, trivial⟩, ⟨⟨by kernel_rfl, rfl, trivial⟩, ⟨⟨by kernel_rfl, rfl, trivial⟩, ⟨⟨by kernel_rfl, rfl, trivial⟩, ⟨⟨by kernel_rfl, rfl, trivial⟩, trivial⟩⟩⟩⟩⟩⟩⟩⟩, trivial⟩
theorem meth_CreateACLsRequest : MethC Tryz.prog 46 a_CreateACLsRequest 30 where
  k := ⟨88, by kernel_rfl, by kernel_rfl, by kernel_rfl⟩
  v := ⟨86, by kernel_rfl, by kernel_rfl, by kernel_rfl⟩
  x := ⟨87, 2, rfl, by kernel_rfl, by kernel_rfl, by kernel_rfl⟩
  a := ⟨85, by kernel_rfl, by kernel_rfl, by kernel_rfl⟩
theorem msg_CreateACLsRequest : FrOk Tryz.prog F has ⟨6, 15, 16, 19, 20, 33, 85, 10, 7⟩ T_CreateACLsRequest a_CreateACLsRequest fx_CreateACLsRequest 2 [.int .i16 0, .slice none 0 0, .map none] 3 30 46 where
  mx := by kernel_rfl
  maxv := by kernel_rfl
  newp := by kernel_rfl
  setv := by kernel_rfl
  rf := by kernel_rfl
  rd := by kernel_rfl
  beh := by kernel_rfl
  meth := meth_CreateACLsRequest
  k7 := by decide
  fl := ⟨rfl, by omega⟩
  sm := by kernel_rfl
  fxs := fxok_CreateACLsRequest
  cnt := by kernel_rfl
  dfl := ⟨[], by kernel_rfl, dfOk_of (by kernel_rfl), rfl, rfl, fun _ => rfl⟩
  dfs := dfs_CreateACLsRequest
  okT := by kernel_rfl
  okA := by kernel_rfl
  rt := by kernel_rfl
  most := by omega

end Go.Proofs.YtidifmifjblllaaGreatDoorR
