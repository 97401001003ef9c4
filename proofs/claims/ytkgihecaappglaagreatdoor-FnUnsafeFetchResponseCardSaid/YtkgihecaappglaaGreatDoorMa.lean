/-
  The message FetchResponse: its schemes, and that the program's functions are as the schemes say.
-/
import Derived.Test.YtkgihecaappglaaGreatDoorL
namespace Go.Proofs.YtkgihecaappglaaGreatDoor
open Go.Msk Go.Proofs
set_option maxRecDepth 100000

def zPart : List Value := [.int .i32 0, .int .i16 0, .int .i64 0, .int .i64 0, .int .i64 0, .int .i32 0, .int .i64 0, .map none, .int .i32 0, .int .i32 0, .map none, .int .i64 0, .int .i32 0, .map none, .slice none 0 0, .int .i32 0, .slice none 0 0, .map none]
def mid_FetchResponse : Sc := .lss (.ge 4) (.flx (.call 26) (.call 27)) ⟨24, some 0⟩ [.int .i64 0, .int .i64 0, .map none] 38 (.prm .all none (.call 37) .i64 (.int .i64 0) (.prm .all none (.call 37) .i64 (.int .i64 0) (.tags 39)))
  (.prm (.ge 11) none (.call 24) .i32 (.int .i32 (-1)) (.prm .all (some (.slice none 0 0)) (.flx (.call 40) (.call 41)) .nbyt .byt .nil))
def part_FetchResponse : Sc := .prm .all none (.call 24) .i32 (.int .i32 0) (.prm .all none (.call 25) .i16 (.int .i16 0) (.prm .all none (.call 37) .i64 (.int .i64 0) (.prm (.ge 4) none (.call 37) .i64 (.int .i64 (-1)) (.prm (.ge 5) none (.call 37) .i64 (.int .i64 (-1))
  (.ktg [⟨0, none, 45, [⟨none, .call 24, .i32, .int .i32 (-1)⟩, ⟨none, .call 37, .i64, .int .i64 (-1)⟩], 39⟩, ⟨1, none, 46, [⟨none, .call 24, .i32, .int .i32 (-1)⟩, ⟨none, .call 24, .i32, .int .i32 (-1)⟩], 39⟩, ⟨2, none, 47, [⟨none, .call 37, .i64, .int .i64 (-1)⟩, ⟨none, .call 24, .i32, .int .i32 (-1)⟩], 39⟩] mid_FetchResponse 42 44 43)))))
def T_FetchResponse : Top := ⟨none, some 12, 17, 28, 29,
  .prm (.ge 1) none (.call 24) .i32 (.int .i32 0) (.prm (.ge 7) none (.call 25) .i16 (.int .i16 0) (.prm (.ge 7) none (.call 24) .i32 (.int .i32 0)
  (.lss .all (.flx (.call 26) (.call 27)) ⟨64, none⟩ [.string .empty, .int .u8 0, .int .u8 0, .int .u8 0, .int .u8 0, .int .u8 0, .int .u8 0, .int .u8 0, .int .u8 0, .int .u8 0, .int .u8 0, .int .u8 0, .int .u8 0, .int .u8 0, .int .u8 0, .int .u8 0, .int .u8 0, .slice none 0 0, .map none] 30
    (.prm (.rng 0 12) (some (.string .empty)) (.uns (.flx (.call 31) (.call 32)) (.flx (.call 33) (.call 34))) .str (.str []) (.uid (.ge 13) 35 (.lss .all (.flx (.call 26) (.call 27)) ⟨160, none⟩ zPart 36 part_FetchResponse (.tags 39))))
  (.ktg [⟨0, some ((.flx (.call 26) (.call 27)), 48, [.int .i32 0, .string .empty, .int .i32 0, .pointer none, .map none]), 48, [⟨none, .call 24, .i32, .int .i32 0⟩, ⟨some (.string .empty), (.uns (.flx (.call 31) (.call 32)) (.flx (.call 33) (.call 34))), .str, .str []⟩, ⟨none, .call 24, .i32, .int .i32 0⟩, ⟨some (.pointer none), (.flx (.uns (.call 49) (.call 50)) (.uns (.call 51) (.call 52))), .nstr, .nstr⟩], 39⟩] .nil 42 44 43))))⟩

def tl_FetchResponse : Tl := (.fld (.num true) (.fld (.num true) (.fld (.num true) (.lst (.tell 19) 19 (.fld .str (.uid (.lst (.tell 53) 18 (.fld (.num true) (.fld (.num true) (.fld (.num false) (.fld (.num false) (.fld (.num false) (.sub 64 3 (.fld (.num true) (.fld (.num false) (.tags 76 21 23))) (.sub 65 3 (.fld (.num true) (.fld (.num true) (.tags 77 21 23))) (.sub 66 3 (.fld (.num false) (.fld (.num true) (.tags 78 21 23))) (.lst (.tell 67) 3 (.fld (.num false) (.fld (.num false) (.tags 79 21 23))) (.fld (.num true) (.fld (.oct 68) (.tags 69 21 23)))))))))))) (.tags 54 21 23)))) (.lst (.tell 20) 5 (.fld (.num true) (.fld .str (.fld (.num true) (.fld (.txt 55) (.tags 56 21 23))))) (.tags 22 21 23))))))
theorem dfs_FetchResponse : DfsOk Tryz.prog T_FetchResponse.sc.dfs := ⟨df_call mixed (l := []) (by kernel_rfl) (dfOk_of (by kernel_rfl)) rfl, ⟨dn_call mixed (l := [.inl (3, .int .i64 (-1)), .inl (4, .int .i64 (-1)), .inr (5, [(0, .int .i32 (-1)), (1, .int .i64 (-1))]), .inr (8, [(0, .int .i32 (-1)), (1, .int .i32 (-1))]), .inr (11, [(0, .int .i64 (-1)), (1, .int .i32 (-1))]), .inl (15, .int .i32 (-1))]) (by kernel_rfl) (dfOk_of (by kernel_rfl)) rfl,
  ⟨df_call mixed (l := []) (by kernel_rfl) (dfOk_of (by kernel_rfl)) rfl, ⟨df_call mixed (l := []) (by kernel_rfl) (dfOk_of (by kernel_rfl)) rfl, trivial⟩⟩⟩⟩
theorem kdfs_FetchResponse : KdfsOk Tryz.prog T_FetchResponse.sc.kdfs := by
  have e : T_FetchResponse.sc.kdfs = [(45, 3), (46, 3), (47, 3)] := by kernel_rfl
  rw [e]
  exact KdfsOk.cons mixed (l := [(0, .int .i32 (-1)), (1, .int .i64 (-1))]) (by kernel_rfl) (dfOk_of (by kernel_rfl)) (KdfsOk.cons mixed (l := [(0, .int .i32 (-1)), (1, .int .i32 (-1))]) (by kernel_rfl) (dfOk_of (by kernel_rfl)) (KdfsOk.cons mixed (l := [(0, .int .i64 (-1)), (1, .int .i32 (-1))]) (by kernel_rfl) (dfOk_of (by kernel_rfl)) KdfsOk.nil))
theorem subs_FetchResponse : SubsOk Tryz.prog tl_FetchResponse.subs := ⟨by kernel_rfl, ⟨by kernel_rfl, ⟨by kernel_rfl, ⟨by kernel_rfl, ⟨by kernel_rfl, ⟨by kernel_rfl, ⟨by kernel_rfl, trivial⟩⟩⟩⟩⟩⟩⟩
theorem cbs_FetchResponse : CbsOk Tryz.prog tl_FetchResponse.cbs := ⟨⟨by kernel_rfl, by kernel_rfl⟩, ⟨⟨by kernel_rfl, by kernel_rfl⟩, ⟨⟨by kernel_rfl, by kernel_rfl⟩, ⟨⟨by kernel_rfl, by kernel_rfl⟩, ⟨⟨by kernel_rfl, by kernel_rfl⟩, ⟨⟨by kernel_rfl, by kernel_rfl⟩, ⟨⟨by kernel_rfl, by kernel_rfl⟩, ⟨⟨by kernel_rfl, by kernel_rfl⟩, trivial⟩⟩⟩⟩⟩⟩⟩⟩
theorem msg_FetchResponse : MsgOk Tryz.prog F has ⟨5, 7, 4, 10, 11, 12, 13, 15, 18, 14⟩ T_FetchResponse tl_FetchResponse [.int .i16 0, .int .i32 0, .int .i16 0, .int .i32 0, .slice none 0 0, .slice none 0 0, .map none] 18 where
  mx := by kernel_rfl
  maxv := by kernel_rfl
  newp := by kernel_rfl
  setv := by kernel_rfl
  rf := by kernel_rfl
  urf := by kernel_rfl
  tellD := by kernel_rfl
  unsD := by kernel_rfl
  rd := by kernel_rfl
  tell := by kernel_rfl
  dfl := ⟨[], by kernel_rfl, dfOk_of (by kernel_rfl), rfl, rfl, fun _ => rfl⟩
  dfs := dfs_FetchResponse
  kdfs := kdfs_FetchResponse
  okT := by kernel_rfl
  okL := by kernel_rfl
  subs := subs_FetchResponse
  cbs := cbs_FetchResponse
  fits := by kernel_rfl
  small := by kernel_rfl
  len := of_decide_eq_true (by kernel_rfl)
  tlen := of_decide_eq_true (by kernel_rfl)
  most := by omega

end Go.Proofs.YtkgihecaappglaaGreatDoor
