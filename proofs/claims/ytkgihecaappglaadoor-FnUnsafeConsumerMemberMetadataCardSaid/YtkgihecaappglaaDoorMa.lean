/-
  The message ConsumerMemberMetadata: its schemes, and that the program's functions are as the schemes say.
-/
import Derived.Test.YtkgihecaappglaaDoorL
namespace Go.Proofs.YtkgihecaappglaaDoor
open Go.Msk Go.Proofs
set_option maxRecDepth 100000

def T_ConsumerMemberMetadata : Top := ⟨(some 24), none, 18, 26, 27,
  (.lsp .all (.call 25) ⟨16, none⟩ (.str []) (some (.string .empty)) (.uns (.call 28) (.call 29)) .str (.prm .all none (.call 30) .nbyt .byt (.lss (.ge 1) (.call 25) ⟨40, none⟩ [.string .empty, .slice none 0 0] 31 (.prm .all (some (.string .empty)) (.uns (.call 28) (.call 29)) .str (.str []) (.lsp .all (.call 25) ⟨4, none⟩ (.int .i32 0) none (.call 32) .i32 .nil)) (.prm (.ge 2) none (.call 32) .i32 (.int .i32 (-1)) (.prm (.ge 3) (some (.pointer none)) (.uns (.call 33) (.call 34)) .nstr .nstr .nil)))))⟩
def tl_ConsumerMemberMetadata : Tl := (.lst (.str) 1 .nil (.fld (.oct 20) (.lst (.tell 21) 2 (.fld .str (.lst (.num true) 1 .nil .nil)) (.fld (.num true) (.fld (.txt 22) .nil)))))
def fx_ConsumerMemberMetadata : List FX := [.mk [(0, 11), (2, (-1)), (3, (-1)), (4, (-1)), (6, 8)] none [], .mk [(0, 9), (2, (-1)), (3, (-1)), (4, (-1))] none [], .mk [(0, 11), (1, 1), (2, (-1)), (3, (-1)), (4, (-1)), (6, 10)] (some 15) [.mk [(0, 8), (2, (-1)), (3, (-1)), (4, (-1))] none [], .mk [(0, 11), (2, (-1)), (3, (-1)), (4, (-1)), (6, 3)] none []], .mk [(0, 3), (1, 2), (2, (-1)), (3, (-1)), (4, (-1)), (5, (-1))] none [], .mk [(0, 8), (1, 3), (2, (-1)), (3, 3), (4, (-1))] none []]
theorem dfs_ConsumerMemberMetadata : DfsOk Tryd.prog T_ConsumerMemberMetadata.sc.dfs := ⟨df_call mixed (l := []) (by kernel_rfl) (dfOk_of (by kernel_rfl)) rfl, trivial⟩
theorem subs_ConsumerMemberMetadata : SubsOk Tryd.prog tl_ConsumerMemberMetadata.subs := ⟨by kernel_rfl, trivial⟩
theorem cbs_ConsumerMemberMetadata : CbsOk Tryd.prog tl_ConsumerMemberMetadata.cbs := trivial
theorem fxok_ConsumerMemberMetadata : FX.OkL Tryd.prog fx_ConsumerMemberMetadata := ⟨⟨by kernel_rfl, rfl, trivial⟩, ⟨⟨by kernel_rfl, rfl, trivial⟩, ⟨⟨by kernel_rfl, (by show _ = _; kernel_rfl), ⟨⟨by kernel_rfl, rfl, trivial⟩, ⟨⟨by kernel_rfl, rfl, trivial⟩, trivial⟩⟩⟩, ⟨⟨by kernel_rfl, rfl, trivial⟩, ⟨⟨by kernel_rfl, rfl, trivial⟩, trivial⟩⟩⟩⟩⟩
theorem msg_ConsumerMemberMetadata : KunsOk Tryd.prog F has ⟨10, 11, 16, 19, 12, 4, 7, 6⟩ T_ConsumerMemberMetadata tl_ConsumerMemberMetadata fx_ConsumerMemberMetadata (-1) [.int .i16 0, .slice none 0 0, .slice none 0 0, .slice none 0 0, .int .i32 0, .pointer none] where
  newv := by kernel_rfl
  rf := by kernel_rfl
  urf := by kernel_rfl
  rd := by kernel_rfl
  tell := by kernel_rfl
  tellD := by kernel_rfl
  unsD := by kernel_rfl
  sm := by kernel_rfl
  fxs := fxok_ConsumerMemberMetadata
  cnt := by kernel_rfl
  dfl := ⟨[(4, .int .i32 (-1))], by kernel_rfl, dfOk_of (by kernel_rfl), rfl, rfl, fun _ => rfl⟩
  dfs := dfs_ConsumerMemberMetadata
  okT := by kernel_rfl
  okL := by kernel_rfl
  subs := subs_ConsumerMemberMetadata
  cbs := cbs_ConsumerMemberMetadata
  fits := by kernel_rfl
  small := by kernel_rfl
  len := of_decide_eq_true (by kernel_rfl)
  tlen := of_decide_eq_true (by kernel_rfl)
  rv := rfl
  plain := by kernel_rfl
  can := by kernel_rfl
  clen := by kernel_rfl

end Go.Proofs.YtkgihecaappglaaDoor
