/-
  The message DescribeLogDirsResponse: its schemes, and that the program's functions are as the schemes say.
-/
import Derived.Test.YtieneknlekaonaaDoorL
namespace Go.Proofs.YtieneknlekaonaaDoor
open Go.Msk Go.Proofs
set_option maxRecDepth 100000

def T_DescribeLogDirsResponse : Top := ⟨none, (some 2), 142, 178, 179,
  (.prm .all none (.call 175) .i32 (.int .i32 0) (.prm (.ge 3) none (.call 181) .i16 (.int .i16 0) (.lss .all (.flx (.call 176) (.call 177)) 80 [.int .i16 0, .string .empty, .slice none 0 0, .int .i64 0, .int .i64 0, .bool false, .map none] 202 (.prm .all none (.call 181) .i16 (.int .i16 0) (.prm .all (some (.string .empty)) (.uns (.flx (.call 187) (.call 188)) (.flx (.call 189) (.call 190))) .str (.str []) (.lss .all (.flx (.call 176) (.call 177)) 48 [.string .empty, .slice none 0 0, .map none] 203 (.prm .all (some (.string .empty)) (.uns (.flx (.call 187) (.call 188)) (.flx (.call 189) (.call 190))) .str (.str []) (.lss .all (.flx (.call 176) (.call 177)) 40 [.int .i32 0, .int .i64 0, .int .i64 0, .bool false, .map none] 204 (.prm .all none (.call 175) .i32 (.int .i32 0) (.prm .all none (.call 205) .i64 (.int .i64 0) (.prm .all none (.call 205) .i64 (.int .i64 0) (.prm .all none (.call 201) .bool (.bool false) (.tags 191))))) (.tags 191))) (.prm (.ge 4) none (.call 205) .i64 (.int .i64 (-1)) (.prm (.ge 4) none (.call 205) .i64 (.int .i64 (-1)) (.prm (.ge 5) none (.call 201) .bool (.bool false) (.tags 191))))))) (.tags 191))))⟩
def tl_DescribeLogDirsResponse : Tl := (.fld (.num true) (.fld (.num true) (.lst (.tell 144) 7 (.fld (.num true) (.fld .str (.lst (.tell 206) 3 (.fld .str (.lst (.tell 247) 5 (.fld (.num true) (.fld (.num false) (.fld (.num false) (.fld (.boo 140) (.tags 275 130 132))))) (.tags 248 130 132))) (.fld (.num false) (.fld (.num false) (.fld (.boo 140) (.tags 207 130 132))))))) (.tags 145 130 132))))
theorem dfs_DescribeLogDirsResponse : DfsOk Tryd.prog T_DescribeLogDirsResponse.sc.dfs := ⟨df_call mixed (l := [(3, .int .i64 (-1)), (4, .int .i64 (-1))]) (by kernel_rfl) (dfOk_of (by kernel_rfl)) rfl, ⟨df_call mixed (l := []) (by kernel_rfl) (dfOk_of (by kernel_rfl)) rfl, ⟨df_call mixed (l := []) (by kernel_rfl) (dfOk_of (by kernel_rfl)) rfl, trivial⟩⟩⟩
theorem subs_DescribeLogDirsResponse : SubsOk Tryd.prog tl_DescribeLogDirsResponse.subs := ⟨by kernel_rfl, ⟨by kernel_rfl, ⟨by kernel_rfl, trivial⟩⟩⟩
theorem cbs_DescribeLogDirsResponse : CbsOk Tryd.prog tl_DescribeLogDirsResponse.cbs := ⟨⟨by kernel_rfl, by kernel_rfl⟩, ⟨⟨by kernel_rfl, by kernel_rfl⟩, ⟨⟨by kernel_rfl, by kernel_rfl⟩, ⟨⟨by kernel_rfl, by kernel_rfl⟩, trivial⟩⟩⟩⟩
theorem msg_DescribeLogDirsResponse : MsgOk Tryd.prog F has ⟨28, 29, 27, 73, 74, 75, 76, 78, 143, 77⟩ T_DescribeLogDirsResponse tl_DescribeLogDirsResponse [.int .i16 0, .int .i32 0, .int .i16 0, .slice none 0 0, .map none] 5 where
  mx := by kernel_rfl
  maxv := by kernel_rfl
  newp := by kernel_rfl
  setv := by kernel_rfl
  rf := by kernel_rfl
  urf := by kernel_rfl
  tellD := by kernel_rfl
  unsD := by kernel_rfl
  rd := by kernel_rfl
  tell := by kernel_rfl
  dfl := ⟨[], by kernel_rfl, dfOk_of (by kernel_rfl), rfl, rfl, fun _ => rfl⟩
  dfs := dfs_DescribeLogDirsResponse
  okT := by kernel_rfl
  okL := by kernel_rfl
  subs := subs_DescribeLogDirsResponse
  cbs := cbs_DescribeLogDirsResponse
  fits := by kernel_rfl
  small := by kernel_rfl
  len := of_decide_eq_true (by kernel_rfl)
  tlen := of_decide_eq_true (by kernel_rfl)
  most := by omega

end Go.Proofs.YtieneknlekaonaaDoor
