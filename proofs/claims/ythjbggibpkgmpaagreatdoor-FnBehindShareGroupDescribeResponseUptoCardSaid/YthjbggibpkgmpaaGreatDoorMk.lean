/-
  The message ShareGroupDescribeResponse: its schemes, and that the program's functions are as the schemes say.
-/
import Derived.Test.YthjbggibpkgmpaaGreatDoorL
namespace Go.Proofs.YthjbggibpkgmpaaGreatDoor
open Go.Msk Go.Proofs
set_option maxRecDepth 100000

/-- Default of a struct that holds another, where neither has anything to set. -/
theorem df2_call {P : Program} (hm : P.follows .mixedOrders = true) {f : FuncId} {off : Nat} (h : liftF P f = some (.seq (.blk [⟨some 3, .mv (.tmp 0), none⟩, ⟨some 4, .nilc (.tmp 3), none⟩, ⟨some 5, .fad (.tmp 4) off, none⟩, ⟨some 2, .mv (.tmp 5), none⟩]) (.blk [⟨some 6, .mv (.tmp 2), none⟩]), [], 7)) {z : List Value} : DfC P f z z := by
  intro w B pre post hb
  refine call_of h hm (by simp) ?_
  rw [wpC_seq, wpC_blk]
  refine go1 (v := .pointer (some ⟨B, pre.length, none⟩)) rfl (by simp [RK.val?, ev, args0]) ?_
  refine go1 (v := .pointer (some ⟨B, pre.length, none⟩)) rfl (by simp [RK.val?, ev, updo, upd]) ?_
  refine go1 (v := .pointer (some ⟨B, pre.length + off, none⟩)) rfl (by simp [RK.val?, ev, updo, upd, Addr.add_mk]) ?_
  refine go1 (v := .pointer (some ⟨B, pre.length + off, none⟩)) rfl (by simp [RK.val?, ev, updo, upd]) (wpR_done ?_)
  try simp only [thenC]
  rw [wpC_blk]
  refine go1 (v := .pointer (some ⟨B, pre.length + off, none⟩)) rfl (by simp [RK.val?, ev, updo, upd]) (goEnd ?_)
  exact ⟨rfl, hb, Mod.refl _ _⟩

def T_ShareGroupDescribeResponse : Top := ⟨none, (some 0), 173, 184, 185,
  (.prm .all none (.call 194) .i32 (.int .i32 0) (.lss .all (.flx (.call 182) (.call 183)) 112 [.int .i16 0, .pointer none, .string .empty, .string .empty, .int .i32 0, .int .i32 0, .string .empty, .slice none 0 0, .int .i32 0, .map none] 233 (.prm .all none (.call 195) .i16 (.int .i16 0) (.prm .all (some (.pointer none)) (.flx (.uns (.call 196) (.call 197)) (.uns (.call 198) (.call 199))) .nstr .nstr (.prm .all (some (.string .empty)) (.uns (.flx (.call 186) (.call 187)) (.flx (.call 188) (.call 189))) .str (.str []) (.prm .all (some (.string .empty)) (.uns (.flx (.call 186) (.call 187)) (.flx (.call 188) (.call 189))) .str (.str []) (.prm .all none (.call 194) .i32 (.int .i32 0) (.prm .all none (.call 194) .i32 (.int .i32 0) (.prm .all (some (.string .empty)) (.uns (.flx (.call 186) (.call 187)) (.flx (.call 188) (.call 189))) .str (.str []) (.lss .all (.flx (.call 182) (.call 183)) 128 [.string .empty, .pointer none, .int .i32 0, .string .empty, .string .empty, .slice none 0 0, .slice none 0 0, .map none, .map none] 234 (.prm .all (some (.string .empty)) (.uns (.flx (.call 186) (.call 187)) (.flx (.call 188) (.call 189))) .str (.str []) (.prm .all (some (.pointer none)) (.flx (.uns (.call 196) (.call 197)) (.uns (.call 198) (.call 199))) .nstr .nstr (.prm .all none (.call 194) .i32 (.int .i32 0) (.prm .all (some (.string .empty)) (.uns (.flx (.call 186) (.call 187)) (.flx (.call 188) (.call 189))) .str (.str []) (.prm .all (some (.string .empty)) (.uns (.flx (.call 186) (.call 187)) (.flx (.call 188) (.call 189))) .str (.str []) (.lsp .all (.flx (.call 182) (.call 183)) 16 (.str []) (some (.string .empty)) (.uns (.flx (.call 186) (.call 187)) (.flx (.call 188) (.call 189))) .str (.sub .all 235 (.lss .all (.flx (.call 182) (.call 183)) 64 [.int .u8 0, .int .u8 0, .int .u8 0, .int .u8 0, .int .u8 0, .int .u8 0, .int .u8 0, .int .u8 0, .int .u8 0, .int .u8 0, .int .u8 0, .int .u8 0, .int .u8 0, .int .u8 0, .int .u8 0, .int .u8 0, .string .empty, .slice none 0 0, .map none] 236 (.uid .all 201 (.prm .all (some (.string .empty)) (.uns (.flx (.call 186) (.call 187)) (.flx (.call 188) (.call 189))) .str (.str []) (.lsp .all (.flx (.call 182) (.call 183)) 4 (.int .i32 0) none (.call 194) .i32 (.tags 190)))) (.tags 190)) (.tags 190)))))))) (.prm .all none (.call 194) .i32 (.int .i32 (-2147483648)) (.tags 190)))))))))) (.tags 190)))⟩
def a_ShareGroupDescribeResponse : ATop := ⟨some 0, (.prm .all false .i32 ⟨140, none⟩ (.lss .all false ⟨131, some 132⟩ 10 (.prm .all false .i16 ⟨141, none⟩ (.prm .all false .nstr ⟨142, some 143⟩ (.prm .all false .str ⟨133, some 134⟩ (.prm .all false .str ⟨133, some 134⟩ (.prm .all false .i32 ⟨140, none⟩ (.prm .all false .i32 ⟨140, none⟩ (.prm .all false .str ⟨133, some 134⟩ (.lss .all false ⟨131, some 132⟩ 9 (.prm .all false .str ⟨133, some 134⟩ (.prm .all false .nstr ⟨142, some 143⟩ (.prm .all false .i32 ⟨140, none⟩ (.prm .all false .str ⟨133, some 134⟩ (.prm .all false .str ⟨133, some 134⟩ (.lsp .all false ⟨131, some 132⟩ .str ⟨133, some 134⟩ (.sub .all 2 (.lss .all false ⟨131, some 132⟩ 19 (.uid .all 144 (.prm .all false .str ⟨133, some 134⟩ (.lsp .all false ⟨131, some 132⟩ .i32 ⟨140, none⟩ (.tags 136 135 137)))) (.tags 136 135 137)) (.tags 136 135 137)))))))) (.prm .all false .i32 ⟨140, none⟩ (.tags 136 135 137)))))))))) (.tags 136 135 137)))⟩
def fx_ShareGroupDescribeResponse : List FX := [.mk [(0, 3), (2, (-1)), (3, (-1)), (4, (-1))] none [], .mk [(0, 11), (2, (-1)), (3, (-1)), (4, (-1)), (6, 10)] (some 116) [.mk [(0, 2), (2, (-1)), (3, (-1)), (4, (-1))] none [], .mk [(0, 8), (2, (-1)), (3, 0), (4, (-1))] none [], .mk [(0, 8), (2, (-1)), (3, (-1)), (4, (-1))] none [], .mk [(0, 8), (2, (-1)), (3, (-1)), (4, (-1))] none [], .mk [(0, 3), (2, (-1)), (3, (-1)), (4, (-1))] none [], .mk [(0, 3), (2, (-1)), (3, (-1)), (4, (-1))] none [], .mk [(0, 8), (2, (-1)), (3, (-1)), (4, (-1))] none [], .mk [(0, 11), (2, (-1)), (3, (-1)), (4, (-1)), (6, 10)] (some 174) [.mk [(0, 8), (2, (-1)), (3, (-1)), (4, (-1))] none [], .mk [(0, 8), (2, (-1)), (3, 0), (4, (-1))] none [], .mk [(0, 3), (2, (-1)), (3, (-1)), (4, (-1))] none [], .mk [(0, 8), (2, (-1)), (3, (-1)), (4, (-1))] none [], .mk [(0, 8), (2, (-1)), (3, (-1)), (4, (-1))] none [], .mk [(0, 11), (2, (-1)), (3, (-1)), (4, (-1)), (6, 8)] none [], .mk [(0, 10), (2, (-1)), (3, (-1)), (4, (-1))] (some 232) [.mk [(0, 11), (2, (-1)), (3, (-1)), (4, (-1)), (6, 10)] (some 247) [.mk [(0, 7), (2, (-1)), (3, (-1)), (4, (-1))] none [], .mk [(0, 8), (2, (-1)), (3, (-1)), (4, (-1))] none [], .mk [(0, 11), (2, (-1)), (3, (-1)), (4, (-1)), (6, 3)] none []]]], .mk [(0, 3), (2, (-1)), (3, (-1)), (4, (-1)), (5, (-2147483648))] none []]]
theorem dfs_ShareGroupDescribeResponse : DfsOk Tryz.prog T_ShareGroupDescribeResponse.sc.dfs := ⟨df_call mixed (l := [(8, .int .i32 (-2147483648))]) (by kernel_rfl) (dfOk_of (by kernel_rfl)) rfl, ⟨df2_call mixed (off := 6) (by kernel_rfl), ⟨df_call mixed (l := []) (by kernel_rfl) (dfOk_of (by kernel_rfl)) rfl, ⟨df_call mixed (l := []) (by kernel_rfl) (dfOk_of (by kernel_rfl)) rfl, trivial⟩⟩⟩⟩
theorem fxok_ShareGroupDescribeResponse : FX.OkL Tryz.prog fx_ShareGroupDescribeResponse := ⟨⟨by kernel_rfl, rfl, trivial⟩, ⟨⟨by kernel_rfl, (by show _ = _; kernel_rfl), ⟨⟨by kernel_rfl, rfl, trivial⟩, ⟨⟨by kernel_rfl, rfl, trivial⟩, ⟨⟨by kernel_rfl, rfl, trivial⟩, ⟨⟨by kernel_rfl, rfl, trivial⟩, ⟨⟨by kernel_rfl, rfl, trivial⟩, ⟨⟨by kernel_rfl, rfl, trivial⟩, ⟨⟨by kernel_rfl, rfl, trivial⟩, ⟨⟨by kernel_rfl, (by show _ = _; kernel_rfl), ⟨⟨by kernel_rfl, rfl, trivial⟩, ⟨⟨by kernel_rfl, rfl, trivial⟩, ⟨⟨by kernel_rfl, rfl, trivial⟩, ⟨⟨by kernel_rfl, rfl, trivial⟩, ⟨⟨by kernel_rfl, rfl, trivial⟩, ⟨⟨by kernel_rfl, rfl, trivial⟩, ⟨⟨by kernel_rfl, (by show _ = _; kernel_rfl), ⟨⟨by kernel_rfl, (by show _ = _; kernel_rfl), ⟨⟨by kernel_rfl, rfl, trivial⟩, ⟨⟨by kernel_rfl, rfl, trivial⟩, ⟨⟨by kernel_rfl, rfl, trivial⟩, trivial⟩⟩⟩⟩, trivial⟩⟩, trivial⟩⟩⟩⟩⟩⟩⟩⟩, ⟨⟨by kernel_rfl, rfl, trivial⟩, trivial⟩⟩⟩⟩⟩⟩⟩⟩⟩⟩, trivial⟩⟩
theorem msg_ShareGroupDescribeResponse : BehOk Tryz.prog F has ⟨48, 114, 115, 117, 118, 175, 119, 50, 49⟩ T_ShareGroupDescribeResponse a_ShareGroupDescribeResponse fx_ShareGroupDescribeResponse 0 [.int .i16 0, .int .i32 0, .slice none 0 0, .map none] 1 where
  mx := by kernel_rfl
  maxv := by kernel_rfl
  newp := by kernel_rfl
  setv := by kernel_rfl
  rf := by kernel_rfl
  rd := by kernel_rfl
  ap := by kernel_rfl
  beh := by kernel_rfl
  sm := by kernel_rfl
  fxs := fxok_ShareGroupDescribeResponse
  cnt := by kernel_rfl
  dfl := ⟨[], by kernel_rfl, dfOk_of (by kernel_rfl), rfl, rfl, fun _ => rfl⟩
  dfs := dfs_ShareGroupDescribeResponse
  okT := by kernel_rfl
  okA := by kernel_rfl
  rt := by kernel_rfl
  most := by omega

end Go.Proofs.YthjbggibpkgmpaaGreatDoor
