/-
  The message ConsumerGroupHeartbeatRequest: its schemes, and that the program's functions are as the schemes say.
-/
import Derived.Test.YtopfpehiaddeaaaGreatDoorL
namespace Go.Proofs.YtopfpehiaddeaaaGreatDoor
open Go.Msk Go.Proofs
set_option maxRecDepth 100000

def T_ConsumerGroupHeartbeatRequest : Top := ⟨none, (some 0), 24, 53, 54,
  (.prm .all (some (.string .empty)) (.uns (.flx (.call 42) (.call 43)) (.flx (.call 44) (.call 45))) .str (.str []) (.prm .all (some (.string .empty)) (.uns (.flx (.call 42) (.call 43)) (.flx (.call 44) (.call 45))) .str (.str []) (.prm .all none (.call 46) .i32 (.int .i32 0) (.prm .all (some (.pointer none)) (.flx (.uns (.call 47) (.call 48)) (.uns (.call 49) (.call 50))) .nstr .nstr (.prm .all (some (.pointer none)) (.flx (.uns (.call 47) (.call 48)) (.uns (.call 49) (.call 50))) .nstr .nstr (.prm .all none (.call 46) .i32 (.int .i32 (-1)) (.lsp .all (.flx (.call 51) (.call 52)) ⟨16, some 0⟩ (.str []) (some (.string .empty)) (.uns (.flx (.call 42) (.call 43)) (.flx (.call 44) (.call 45))) .str (.prm (.ge 1) (some (.pointer none)) (.flx (.uns (.call 47) (.call 48)) (.uns (.call 49) (.call 50))) .nstr .nstr (.prm .all (some (.pointer none)) (.flx (.uns (.call 47) (.call 48)) (.uns (.call 49) (.call 50))) .nstr .nstr (.lss .all (.flx (.call 51) (.call 52)) ⟨48, some 0⟩ [.int .u8 0, .int .u8 0, .int .u8 0, .int .u8 0, .int .u8 0, .int .u8 0, .int .u8 0, .int .u8 0, .int .u8 0, .int .u8 0, .int .u8 0, .int .u8 0, .int .u8 0, .int .u8 0, .int .u8 0, .int .u8 0, .slice none 0 0, .map none] 55 (.uid .all 56 (.lsp .all (.flx (.call 51) (.call 52)) ⟨4, none⟩ (.int .i32 0) none (.call 46) .i32 (.tags 57))) (.tags 57)))))))))))⟩
def a_ConsumerGroupHeartbeatRequest : ATop := ⟨some 0, (.prm .all false .str ⟨93, some 70⟩ (.prm .all false .str ⟨93, some 70⟩ (.prm .all false .i32 ⟨60, none⟩ (.prm .all false .nstr ⟨94, some 61⟩ (.prm .all false .nstr ⟨94, some 61⟩ (.prm .all false .i32 ⟨60, none⟩ (.lsp .all true ⟨95, some 96⟩ .str ⟨93, some 70⟩ (.prm (.ge 1) false .nstr ⟨94, some 61⟩ (.prm .all false .nstr ⟨94, some 61⟩ (.lss .all true ⟨95, some 96⟩ 18 (.uid .all 97 (.lsp .all false ⟨98, some 99⟩ .i32 ⟨60, none⟩ (.tags 101 100 102))) (.tags 101 100 102)))))))))))⟩
def fx_ConsumerGroupHeartbeatRequest : List FX := [.mk [(0, 8), (2, (-1)), (3, (-1)), (4, (-1))] none [], .mk [(0, 8), (2, (-1)), (3, (-1)), (4, (-1))] none [], .mk [(0, 3), (2, (-1)), (3, (-1)), (4, (-1))] none [], .mk [(0, 8), (2, (-1)), (3, 0), (4, (-1))] none [], .mk [(0, 8), (2, (-1)), (3, 0), (4, (-1))] none [], .mk [(0, 3), (2, (-1)), (3, (-1)), (4, (-1)), (5, (-1))] none [], .mk [(0, 11), (2, (-1)), (3, 0), (4, (-1)), (6, 8)] none [], .mk [(0, 8), (1, 1), (2, (-1)), (3, 1), (4, (-1))] none [], .mk [(0, 8), (2, (-1)), (3, 0), (4, (-1))] none [], .mk [(0, 11), (2, (-1)), (3, 0), (4, (-1)), (6, 10)] (some 17) [.mk [(0, 7), (2, (-1)), (3, (-1)), (4, (-1))] none [], .mk [(0, 11), (2, (-1)), (3, (-1)), (4, (-1)), (6, 3)] none []]]
theorem dfs_ConsumerGroupHeartbeatRequest : DfsOk Tryz.prog T_ConsumerGroupHeartbeatRequest.sc.dfs := ⟨df_call mixed (l := []) (by kernel_rfl) (dfOk_of (by kernel_rfl)) rfl, trivial⟩
theorem fxok_ConsumerGroupHeartbeatRequest : FX.OkL Tryz.prog fx_ConsumerGroupHeartbeatRequest := ⟨⟨by kernel_rfl, rfl, trivial⟩, ⟨⟨by kernel_rfl, rfl, trivial⟩, ⟨⟨by kernel_rfl, rfl, trivial⟩, ⟨⟨by kernel_rfl, rfl, trivial⟩, ⟨⟨by kernel_rfl, rfl, trivial⟩, ⟨⟨by kernel_rfl, rfl, trivial⟩, ⟨⟨by kernel_rfl, rfl, trivial⟩, ⟨⟨by kernel_rfl, rfl, trivial⟩, ⟨⟨by kernel_rfl, rfl, trivial⟩, ⟨⟨by kernel_rfl, (by show _ = _; kernel_rfl), ⟨⟨by kernel_rfl, rfl, trivial⟩, ⟨⟨by kernel_rfl, rfl, trivial⟩, trivial⟩⟩⟩, trivial⟩⟩⟩⟩⟩⟩⟩⟩⟩⟩
theorem meth_ConsumerGroupHeartbeatRequest : MethC Tryz.prog 46 a_ConsumerGroupHeartbeatRequest 68 where
  k := ⟨92, by kernel_rfl, by kernel_rfl, by kernel_rfl⟩
  v := ⟨90, by kernel_rfl, by kernel_rfl, by kernel_rfl⟩
  x := ⟨91, 0, rfl, by kernel_rfl, by kernel_rfl, by kernel_rfl⟩
  a := ⟨89, by kernel_rfl, by kernel_rfl, by kernel_rfl⟩
theorem msg_ConsumerGroupHeartbeatRequest : FrOk Tryz.prog F has ⟨6, 15, 16, 19, 20, 33, 89, 10, 7⟩ T_ConsumerGroupHeartbeatRequest a_ConsumerGroupHeartbeatRequest fx_ConsumerGroupHeartbeatRequest 0 [.int .i16 0, .string .empty, .string .empty, .int .i32 0, .pointer none, .pointer none, .int .i32 0, .slice none 0 0, .pointer none, .pointer none, .slice none 0 0, .map none] 1 68 46 where
  mx := by kernel_rfl
  maxv := by kernel_rfl
  newp := by kernel_rfl
  setv := by kernel_rfl
  rf := by kernel_rfl
  rd := by kernel_rfl
  beh := by kernel_rfl
  meth := meth_ConsumerGroupHeartbeatRequest
  k7 := by decide
  fl := ⟨rfl, by omega⟩
  sm := by kernel_rfl
  fxs := fxok_ConsumerGroupHeartbeatRequest
  cnt := by kernel_rfl
  dfl := ⟨[(6, .int .i32 (-1))], by kernel_rfl, dfOk_of (by kernel_rfl), rfl, rfl, fun _ => rfl⟩
  dfs := dfs_ConsumerGroupHeartbeatRequest
  okT := by kernel_rfl
  okA := by kernel_rfl
  rt := by kernel_rfl
  most := by omega

end Go.Proofs.YtopfpehiaddeaaaGreatDoor
