/-
  The message ListTransactionsRequest: its schemes, and that the program's functions are as the schemes say.
-/
import Derived.Test.YtcknmmkgmlkhaaaGreatDoorL
namespace Go.Proofs.YtcknmmkgmlkhaaaGreatDoor
open Go.Msk Go.Proofs
set_option maxRecDepth 100000

def T_ListTransactionsRequest : Top := ⟨none, (some 0), 51, 132, 133,
  (.lsp .all (.flx (.call 130) (.call 131)) 16 (.str []) (some (.string .empty)) (.uns (.flx (.call 135) (.call 136)) (.flx (.call 137) (.call 138))) .str (.lsp .all (.flx (.call 130) (.call 131)) 8 (.int .i64 0) none (.call 141) .i64 (.prm (.ge 1) none (.call 141) .i64 (.int .i64 (-1)) (.prm (.ge 2) (some (.pointer none)) (.flx (.uns (.call 154) (.call 155)) (.uns (.call 156) (.call 157))) .nstr .nstr (.tags 142)))))⟩
def tl_ListTransactionsRequest : Tl := (.lst (.str) 1 .nil (.lst (.num false) 1 .nil (.fld (.num false) (.fld (.txt 105) (.tags 106 94 96)))))
def fx_ListTransactionsRequest : List FX := [.mk [(0, 11), (2, (-1)), (3, (-1)), (4, (-1)), (6, 8)] none [], .mk [(0, 11), (2, (-1)), (3, (-1)), (4, (-1)), (6, 4)] none [], .mk [(0, 4), (1, 1), (2, (-1)), (3, (-1)), (4, (-1)), (5, (-1))] none [], .mk [(0, 8), (1, 2), (2, (-1)), (3, 2), (4, (-1))] none []]
theorem dfs_ListTransactionsRequest : DfsOk Tryz.prog T_ListTransactionsRequest.sc.dfs := trivial
theorem subs_ListTransactionsRequest : SubsOk Tryz.prog tl_ListTransactionsRequest.subs := trivial
theorem cbs_ListTransactionsRequest : CbsOk Tryz.prog tl_ListTransactionsRequest.cbs := ⟨⟨by kernel_rfl, by kernel_rfl⟩, trivial⟩
theorem fxok_ListTransactionsRequest : FX.OkL Tryz.prog fx_ListTransactionsRequest := ⟨⟨by kernel_rfl, rfl, trivial⟩, ⟨⟨by kernel_rfl, rfl, trivial⟩, ⟨⟨by kernel_rfl, rfl, trivial⟩, ⟨⟨by kernel_rfl, rfl, trivial⟩, trivial⟩⟩⟩⟩
theorem msg_ListTransactionsRequest : DefOk Tryz.prog F has ⟨18, 47, 48, 49, 50, 104, 52, 20, 19⟩ T_ListTransactionsRequest tl_ListTransactionsRequest fx_ListTransactionsRequest 0 [.int .i16 0, .slice none 0 0, .slice none 0 0, .int .i64 0, .pointer none, .map none] 2 2 .i64 (-1) where
  mx := by kernel_rfl
  maxv := by kernel_rfl
  newp := by kernel_rfl
  setv := by kernel_rfl
  rf := by kernel_rfl
  rd := by kernel_rfl
  tell := by kernel_rfl
  door := by kernel_rfl
  sm := by kernel_rfl
  fxs := fxok_ListTransactionsRequest
  cnt := by kernel_rfl
  dfl := ⟨[(3, .int .i64 (-1))], rfl, by kernel_rfl, dfOk_of (by kernel_rfl), rfl, rfl, fun _ => rfl⟩
  dfs := dfs_ListTransactionsRequest
  okT := by kernel_rfl
  okL := by kernel_rfl
  subs := subs_ListTransactionsRequest
  cbs := cbs_ListTransactionsRequest
  fits := by kernel_rfl
  small := by kernel_rfl
  len := of_decide_eq_true (by kernel_rfl)
  tlen := of_decide_eq_true (by kernel_rfl)
  rv := by kernel_rfl
  set := by kernel_rfl
  most := by omega

end Go.Proofs.YtcknmmkgmlkhaaaGreatDoor
