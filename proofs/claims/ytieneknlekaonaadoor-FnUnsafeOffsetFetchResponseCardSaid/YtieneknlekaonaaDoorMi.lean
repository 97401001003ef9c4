/-
  The message OffsetFetchResponse: its schemes, and that the program's functions are as the schemes say.
-/
import Derived.Test.YtieneknlekaonaaDoorL
namespace Go.Proofs.YtieneknlekaonaaDoor
open Go.Msk Go.Proofs
set_option maxRecDepth 100000

def T_OffsetFetchResponse : Top := ⟨none, (some 6), 159, 178, 179,
  (.prm (.ge 3) none (.call 175) .i32 (.int .i32 0) (.lss (.rng 0 7) (.flx (.call 176) (.call 177)) 48 [.string .empty, .slice none 0 0, .map none] 214 (.prm .all (some (.string .empty)) (.uns (.flx (.call 187) (.call 188)) (.flx (.call 189) (.call 190))) .str (.str []) (.lss .all (.flx (.call 176) (.call 177)) 48 [.int .i32 0, .int .i64 0, .int .i32 0, .pointer none, .int .i16 0, .map none] 215 (.prm .all none (.call 175) .i32 (.int .i32 0) (.prm .all none (.call 205) .i64 (.int .i64 0) (.prm (.ge 5) none (.call 175) .i32 (.int .i32 (-1)) (.prm .all (some (.pointer none)) (.flx (.uns (.call 182) (.call 183)) (.uns (.call 184) (.call 185))) .nstr .nstr (.prm .all none (.call 181) .i16 (.int .i16 0) (.tags 191)))))) (.tags 191))) (.prm (.rng 2 7) none (.call 181) .i16 (.int .i16 0) (.lss (.ge 8) (.flx (.call 176) (.call 177)) 56 [.string .empty, .slice none 0 0, .int .i16 0, .map none] 216 (.prm .all (some (.string .empty)) (.uns (.flx (.call 187) (.call 188)) (.flx (.call 189) (.call 190))) .str (.str []) (.lss .all (.flx (.call 176) (.call 177)) 64 [.string .empty, .int .u8 0, .int .u8 0, .int .u8 0, .int .u8 0, .int .u8 0, .int .u8 0, .int .u8 0, .int .u8 0, .int .u8 0, .int .u8 0, .int .u8 0, .int .u8 0, .int .u8 0, .int .u8 0, .int .u8 0, .int .u8 0, .slice none 0 0, .map none] 217 (.prm (.rng 8 9) (some (.string .empty)) (.uns (.flx (.call 187) (.call 188)) (.flx (.call 189) (.call 190))) .str (.str []) (.uid (.ge 10) 208 (.lss .all (.flx (.call 176) (.call 177)) 48 [.int .i32 0, .int .i64 0, .int .i32 0, .pointer none, .int .i16 0, .map none] 218 (.prm .all none (.call 175) .i32 (.int .i32 0) (.prm .all none (.call 205) .i64 (.int .i64 0) (.prm .all none (.call 175) .i32 (.int .i32 (-1)) (.prm .all (some (.pointer none)) (.flx (.uns (.call 182) (.call 183)) (.uns (.call 184) (.call 185))) .nstr .nstr (.prm .all none (.call 181) .i16 (.int .i16 0) (.tags 191)))))) (.tags 191)))) (.prm .all none (.call 181) .i16 (.int .i16 0) (.tags 191)))) (.tags 191)))))⟩
def tl_OffsetFetchResponse : Tl := (.fld (.num true) (.lst (.tell 161) 3 (.fld .str (.lst (.tell 219) 6 (.fld (.num true) (.fld (.num false) (.fld (.num true) (.fld (.txt 135) (.fld (.num true) (.tags 249 130 132)))))) (.tags 220 130 132))) (.fld (.num true) (.lst (.tell 162) 4 (.fld .str (.lst (.tell 221) 19 (.fld .str (.uid (.lst (.tell 250) 6 (.fld (.num true) (.fld (.num false) (.fld (.num true) (.fld (.txt 135) (.fld (.num true) (.tags 276 130 132)))))) (.tags 251 130 132)))) (.fld (.num true) (.tags 222 130 132)))) (.tags 163 130 132)))))
theorem dfs_OffsetFetchResponse : DfsOk Tryd.prog T_OffsetFetchResponse.sc.dfs := ⟨df_call mixed (l := []) (by kernel_rfl) (dfOk_of (by kernel_rfl)) rfl, ⟨df_call mixed (l := [(2, .int .i32 (-1))]) (by kernel_rfl) (dfOk_of (by kernel_rfl)) rfl, ⟨df_call mixed (l := []) (by kernel_rfl) (dfOk_of (by kernel_rfl)) rfl, ⟨df_call mixed (l := []) (by kernel_rfl) (dfOk_of (by kernel_rfl)) rfl, ⟨df_call mixed (l := [(2, .int .i32 (-1))]) (by kernel_rfl) (dfOk_of (by kernel_rfl)) rfl, trivial⟩⟩⟩⟩⟩
theorem subs_OffsetFetchResponse : SubsOk Tryd.prog tl_OffsetFetchResponse.subs := ⟨by kernel_rfl, ⟨by kernel_rfl, ⟨by kernel_rfl, ⟨by kernel_rfl, ⟨by kernel_rfl, trivial⟩⟩⟩⟩⟩
theorem cbs_OffsetFetchResponse : CbsOk Tryd.prog tl_OffsetFetchResponse.cbs := ⟨⟨by kernel_rfl, by kernel_rfl⟩, ⟨⟨by kernel_rfl, by kernel_rfl⟩, ⟨⟨by kernel_rfl, by kernel_rfl⟩, ⟨⟨by kernel_rfl, by kernel_rfl⟩, ⟨⟨by kernel_rfl, by kernel_rfl⟩, ⟨⟨by kernel_rfl, by kernel_rfl⟩, trivial⟩⟩⟩⟩⟩⟩
theorem msg_OffsetFetchResponse : MsgOk Tryd.prog F has ⟨43, 44, 42, 103, 104, 105, 106, 108, 160, 107⟩ T_OffsetFetchResponse tl_OffsetFetchResponse [.int .i16 0, .int .i32 0, .slice none 0 0, .int .i16 0, .slice none 0 0, .map none] 10 where
  mx := by kernel_rfl
  maxv := by kernel_rfl
  newp := by kernel_rfl
  setv := by kernel_rfl
  rf := by kernel_rfl
  urf := by kernel_rfl
  tellD := by kernel_rfl
  unsD := by kernel_rfl
  rd := by kernel_rfl
  tell := by kernel_rfl
  dfl := ⟨[], by kernel_rfl, dfOk_of (by kernel_rfl), rfl, rfl, fun _ => rfl⟩
  dfs := dfs_OffsetFetchResponse
  okT := by kernel_rfl
  okL := by kernel_rfl
  subs := subs_OffsetFetchResponse
  cbs := cbs_OffsetFetchResponse
  fits := by kernel_rfl
  small := by kernel_rfl
  len := of_decide_eq_true (by kernel_rfl)
  tlen := of_decide_eq_true (by kernel_rfl)
  most := by omega

end Go.Proofs.YtieneknlekaonaaDoor
