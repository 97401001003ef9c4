/-
  The message ProduceRequest: its schemes, and that the program's functions are as the schemes say.
-/
import Derived.Test.YtieneknlekaonaaDoorL
namespace Go.Proofs.YtieneknlekaonaaDoor
open Go.Msk Go.Proofs
set_option maxRecDepth 100000

def T_ProduceRequest : Top := ⟨none, (some 9), 164, 178, 179,
  (.prm (.ge 3) (some (.pointer none)) (.flx (.uns (.call 182) (.call 183)) (.uns (.call 184) (.call 185))) .nstr .nstr (.prm .all none (.call 181) .i16 (.int .i16 0) (.prm .all none (.call 175) .i32 (.int .i32 15000) (.lss .all (.flx (.call 176) (.call 177)) 64 [.string .empty, .int .u8 0, .int .u8 0, .int .u8 0, .int .u8 0, .int .u8 0, .int .u8 0, .int .u8 0, .int .u8 0, .int .u8 0, .int .u8 0, .int .u8 0, .int .u8 0, .int .u8 0, .int .u8 0, .int .u8 0, .int .u8 0, .slice none 0 0, .map none] 223 (.prm (.rng 0 12) (some (.string .empty)) (.uns (.flx (.call 187) (.call 188)) (.flx (.call 189) (.call 190))) .str (.str []) (.uid (.ge 13) 208 (.lss .all (.flx (.call 176) (.call 177)) 40 [.int .i32 0, .slice none 0 0, .map none] 224 (.prm .all none (.call 175) .i32 (.int .i32 0) (.prm .all (some (.slice none 0 0)) (.flx (.call 225) (.call 226)) .nbyt .byt (.tags 191))) (.tags 191)))) (.tags 191)))))⟩
def tl_ProduceRequest : Tl := (.fld (.txt 135) (.fld (.num true) (.fld (.num true) (.lst (.tell 166) 19 (.fld .str (.uid (.lst (.tell 227) 3 (.fld (.num true) (.fld (.oct 212) (.tags 252 130 132))) (.tags 228 130 132)))) (.tags 167 130 132)))))
theorem dfs_ProduceRequest : DfsOk Tryd.prog T_ProduceRequest.sc.dfs := ⟨df_call mixed (l := []) (by kernel_rfl) (dfOk_of (by kernel_rfl)) rfl, ⟨df_call mixed (l := []) (by kernel_rfl) (dfOk_of (by kernel_rfl)) rfl, trivial⟩⟩
theorem subs_ProduceRequest : SubsOk Tryd.prog tl_ProduceRequest.subs := ⟨by kernel_rfl, ⟨by kernel_rfl, trivial⟩⟩
theorem cbs_ProduceRequest : CbsOk Tryd.prog tl_ProduceRequest.cbs := ⟨⟨by kernel_rfl, by kernel_rfl⟩, ⟨⟨by kernel_rfl, by kernel_rfl⟩, ⟨⟨by kernel_rfl, by kernel_rfl⟩, trivial⟩⟩⟩
theorem msg_ProduceRequest : MsgOk Tryd.prog F has ⟨46, 47, 45, 109, 110, 111, 112, 114, 165, 113⟩ T_ProduceRequest tl_ProduceRequest [.int .i16 0, .pointer none, .int .i16 0, .int .i32 0, .slice none 0 0, .map none] 13 where
  mx := by kernel_rfl
  maxv := by kernel_rfl
  newp := by kernel_rfl
  setv := by kernel_rfl
  rf := by kernel_rfl
  urf := by kernel_rfl
  tellD := by kernel_rfl
  unsD := by kernel_rfl
  rd := by kernel_rfl
  tell := by kernel_rfl
  dfl := ⟨[(3, .int .i32 15000)], by kernel_rfl, dfOk_of (by kernel_rfl), rfl, rfl, fun _ => rfl⟩
  dfs := dfs_ProduceRequest
  okT := by kernel_rfl
  okL := by kernel_rfl
  subs := subs_ProduceRequest
  cbs := cbs_ProduceRequest
  fits := by kernel_rfl
  small := by kernel_rfl
  len := of_decide_eq_true (by kernel_rfl)
  tlen := of_decide_eq_true (by kernel_rfl)
  most := by omega

end Go.Proofs.YtieneknlekaonaaDoor
