/-
  The message FindCoordinatorRequest: its schemes, and that the program's functions are as the schemes say.
-/
import Derived.Test.YtieneknlekaonaaDoorL
namespace Go.Proofs.YtieneknlekaonaaDoor
open Go.Msk Go.Proofs
set_option maxRecDepth 100000

def T_FindCoordinatorRequest : Top := ⟨none, (some 3), 146, 178, 179,
  (.prm (.rng 0 3) (some (.string .empty)) (.uns (.flx (.call 187) (.call 188)) (.flx (.call 189) (.call 190))) .str (.str []) (.prm (.ge 1) none (.call 197) .i8 (.int .i8 0) (.lsp (.ge 4) (.flx (.call 176) (.call 177)) 16 (.str []) (some (.string .empty)) (.uns (.flx (.call 187) (.call 188)) (.flx (.call 189) (.call 190))) .str (.tags 191))))⟩
def tl_FindCoordinatorRequest : Tl := (.fld .str (.fld (.num true) (.lst (.str) 1 .nil (.tags 148 130 132))))
theorem dfs_FindCoordinatorRequest : DfsOk Tryd.prog T_FindCoordinatorRequest.sc.dfs := trivial
theorem subs_FindCoordinatorRequest : SubsOk Tryd.prog tl_FindCoordinatorRequest.subs := trivial
theorem cbs_FindCoordinatorRequest : CbsOk Tryd.prog tl_FindCoordinatorRequest.cbs := ⟨⟨by kernel_rfl, by kernel_rfl⟩, trivial⟩
theorem msg_FindCoordinatorRequest : MsgOk Tryd.prog F has ⟨31, 32, 30, 79, 80, 81, 82, 84, 147, 83⟩ T_FindCoordinatorRequest tl_FindCoordinatorRequest [.int .i16 0, .string .empty, .int .i8 0, .slice none 0 0, .map none] 6 where
  mx := by kernel_rfl
  maxv := by kernel_rfl
  newp := by kernel_rfl
  setv := by kernel_rfl
  rf := by kernel_rfl
  urf := by kernel_rfl
  tellD := by kernel_rfl
  unsD := by kernel_rfl
  rd := by kernel_rfl
  tell := by kernel_rfl
  dfl := ⟨[], by kernel_rfl, dfOk_of (by kernel_rfl), rfl, rfl, fun _ => rfl⟩
  dfs := dfs_FindCoordinatorRequest
  okT := by kernel_rfl
  okL := by kernel_rfl
  subs := subs_FindCoordinatorRequest
  cbs := cbs_FindCoordinatorRequest
  fits := by kernel_rfl
  small := by kernel_rfl
  len := of_decide_eq_true (by kernel_rfl)
  tlen := of_decide_eq_true (by kernel_rfl)
  most := by omega

end Go.Proofs.YtieneknlekaonaaDoor
