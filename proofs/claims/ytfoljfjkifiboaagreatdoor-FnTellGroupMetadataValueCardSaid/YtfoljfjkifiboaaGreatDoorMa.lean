/-
  The message GroupMetadataValue: its schemes, and that the program's functions are as the schemes say.
-/
import Derived.Test.YtfoljfjkifiboaaGreatDoorL
namespace Go.Proofs.YtfoljfjkifiboaaGreatDoor
open Go.Msk Go.Proofs
set_option maxRecDepth 100000

def T_GroupMetadataValue : Top := ⟨(some 58), (some 4), 52, 81, 68,
  (.prm .all (some (.string .empty)) (.uns (.flx (.call 63) (.call 64)) (.flx (.call 65) (.call 66))) .str (.str []) (.prm .all none (.call 57) .i32 (.int .i32 0) (.prm .all (some (.pointer none)) (.flx (.uns (.call 74) (.call 75)) (.uns (.call 76) (.call 77))) .nstr .nstr (.prm .all (some (.pointer none)) (.flx (.uns (.call 74) (.call 75)) (.uns (.call 76) (.call 77))) .nstr .nstr (.prm (.ge 2) none (.call 78) .i64 (.int .i64 (-1)) (.lss .all (.flx (.call 79) (.call 80)) ⟨120, none⟩ [.string .empty, .pointer none, .string .empty, .string .empty, .int .i32 0, .int .i32 0, .slice none 0 0, .slice none 0 0, .map none] 82 (.prm .all (some (.string .empty)) (.uns (.flx (.call 63) (.call 64)) (.flx (.call 65) (.call 66))) .str (.str []) (.prm (.ge 3) (some (.pointer none)) (.flx (.uns (.call 74) (.call 75)) (.uns (.call 76) (.call 77))) .nstr .nstr (.prm .all (some (.string .empty)) (.uns (.flx (.call 63) (.call 64)) (.flx (.call 65) (.call 66))) .str (.str []) (.prm .all (some (.string .empty)) (.uns (.flx (.call 63) (.call 64)) (.flx (.call 65) (.call 66))) .str (.str []) (.prm (.ge 1) none (.call 57) .i32 (.int .i32 (-1)) (.prm .all none (.call 57) .i32 (.int .i32 0) (.prm .all (some (.slice none 0 0)) (.flx (.call 83) (.call 84)) .byt .byt (.prm .all (some (.slice none 0 0)) (.flx (.call 83) (.call 84)) .byt .byt (.tags 67))))))))) (.tags 67)))))))⟩
def tl_GroupMetadataValue : Tl := (.fld .str (.fld (.num true) (.fld (.txt 54) (.fld (.txt 54) (.fld (.num false) (.lst (.tell 55) 9 (.fld .str (.fld (.txt 54) (.fld .str (.fld .str (.fld (.num true) (.fld (.num true) (.fld (.oct 85) (.fld (.oct 85) (.tags 86 42 44))))))))) (.tags 56 42 44)))))))
def fx_GroupMetadataValue : List FX := [.mk [(0, 8), (2, (-1)), (3, (-1)), (4, (-1))] none [], .mk [(0, 3), (2, (-1)), (3, (-1)), (4, (-1))] none [], .mk [(0, 8), (2, (-1)), (3, 0), (4, (-1))] none [], .mk [(0, 8), (2, (-1)), (3, 0), (4, (-1))] none [], .mk [(0, 4), (1, 2), (2, (-1)), (3, (-1)), (4, (-1)), (5, (-1))] none [], .mk [(0, 11), (2, (-1)), (3, (-1)), (4, (-1)), (6, 10)] (some 33) [.mk [(0, 8), (2, (-1)), (3, (-1)), (4, (-1))] none [], .mk [(0, 8), (1, 3), (2, (-1)), (3, 3), (4, (-1))] none [], .mk [(0, 8), (2, (-1)), (3, (-1)), (4, (-1))] none [], .mk [(0, 8), (2, (-1)), (3, (-1)), (4, (-1))] none [], .mk [(0, 3), (1, 1), (2, (-1)), (3, (-1)), (4, (-1)), (5, (-1))] none [], .mk [(0, 3), (2, (-1)), (3, (-1)), (4, (-1))] none [], .mk [(0, 9), (2, (-1)), (3, (-1)), (4, (-1))] none [], .mk [(0, 9), (2, (-1)), (3, (-1)), (4, (-1))] none []]]
theorem dfs_GroupMetadataValue : DfsOk Tryz.prog T_GroupMetadataValue.sc.dfs := ⟨df_call mixed (l := [(4, .int .i32 (-1))]) (by kernel_rfl) (dfOk_of (by kernel_rfl)) rfl, trivial⟩
theorem subs_GroupMetadataValue : SubsOk Tryz.prog tl_GroupMetadataValue.subs := ⟨by kernel_rfl, trivial⟩
theorem cbs_GroupMetadataValue : CbsOk Tryz.prog tl_GroupMetadataValue.cbs := ⟨⟨by kernel_rfl, by kernel_rfl⟩, ⟨⟨by kernel_rfl, by kernel_rfl⟩, trivial⟩⟩
theorem fxok_GroupMetadataValue : FX.OkL Tryz.prog fx_GroupMetadataValue := ⟨⟨by kernel_rfl, rfl, trivial⟩, ⟨⟨by kernel_rfl, rfl, trivial⟩, ⟨⟨by kernel_rfl, rfl, trivial⟩, ⟨⟨by kernel_rfl, rfl, trivial⟩, ⟨⟨by kernel_rfl, rfl, trivial⟩, ⟨⟨by kernel_rfl, (by show _ = _; kernel_rfl), ⟨⟨by kernel_rfl, rfl, trivial⟩, ⟨⟨by kernel_rfl, rfl, trivial⟩, ⟨⟨by kernel_rfl, rfl, trivial⟩, ⟨⟨by kernel_rfl, rfl, trivial⟩, ⟨⟨by kernel_rfl, rfl, trivial⟩, ⟨⟨by kernel_rfl, rfl, trivial⟩, ⟨⟨by kernel_rfl, rfl, trivial⟩, ⟨⟨by kernel_rfl, rfl, trivial⟩, trivial⟩⟩⟩⟩⟩⟩⟩⟩⟩, trivial⟩⟩⟩⟩⟩⟩
theorem msg_GroupMetadataValue : KeptOk Tryz.prog F has ⟨34, 35, 53, 36, 15, 14⟩ T_GroupMetadataValue tl_GroupMetadataValue fx_GroupMetadataValue 4 [.int .i16 0, .string .empty, .int .i32 0, .pointer none, .pointer none, .int .i64 0, .slice none 0 0, .map none] 4 where
  newv := by kernel_rfl
  rf := by kernel_rfl
  rd := by kernel_rfl
  tell := by kernel_rfl
  door := by kernel_rfl
  sm := by kernel_rfl
  fxs := fxok_GroupMetadataValue
  cnt := by kernel_rfl
  dfl := ⟨[(5, .int .i64 (-1))], by kernel_rfl, dfOk_of (by kernel_rfl), rfl, rfl, fun _ => rfl⟩
  dfs := dfs_GroupMetadataValue
  okT := by kernel_rfl
  okL := by kernel_rfl
  subs := subs_GroupMetadataValue
  cbs := cbs_GroupMetadataValue
  fits := by kernel_rfl
  small := by kernel_rfl
  len := of_decide_eq_true (by kernel_rfl)
  tlen := of_decide_eq_true (by kernel_rfl)
  rv := by kernel_rfl
  told := by kernel_rfl
  most := by omega

end Go.Proofs.YtfoljfjkifiboaaGreatDoor
