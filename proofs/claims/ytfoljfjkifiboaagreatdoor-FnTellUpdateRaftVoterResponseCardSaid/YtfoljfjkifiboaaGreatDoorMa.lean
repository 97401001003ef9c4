/-
  The message UpdateRaftVoterResponse: its schemes, and that the program's functions are as the schemes say.
-/
import Derived.Test.YtfoljfjkifiboaaGreatDoorL
namespace Go.Proofs.YtfoljfjkifiboaaGreatDoor
open Go.Msk Go.Proofs
set_option maxRecDepth 100000

def T_UpdateRaftVoterResponse : zU := ⟨0, 39, 81, 68,
  (.prm .all none (.call 57) .i32 (.int .i32 0) (.prm .all none (.call 58) .i16 (.int .i16 0) .nil)),
  62, (.prm .all none (.call 57) .i32 (.int .i32 (-1)) (.prm .all none (.call 57) .i32 (.int .i32 (-1)) (.prm .all (some (.string .empty)) (.uns (.flx (.call 63) (.call 64)) (.flx (.call 65) (.call 66))) .str (.str []) (.prm .all none (.call 57) .i32 (.int .i32 0) (.tags 67))))), 59, 61, 60⟩
def tl_UpdateRaftVoterResponse : Tl := (.fld (.num true) (.fld (.num true) (.sub 41 5 (.fld (.num true) (.fld (.num true) (.fld .str (.fld (.num true) (.tags 69 42 44))))) (.tags 43 42 44))))
def fx_UpdateRaftVoterResponse : List FX := [.mk [(0, 3), (2, (-1)), (3, (-1)), (4, (-1))] none [], .mk [(0, 2), (2, (-1)), (3, (-1)), (4, (-1))] none [], .mk [(0, 10), (2, (-1)), (3, (-1)), (4, 0)] (some 20) [.mk [(0, 3), (2, (-1)), (3, (-1)), (4, (-1)), (5, (-1))] none [], .mk [(0, 3), (2, (-1)), (3, (-1)), (4, (-1)), (5, (-1))] none [], .mk [(0, 8), (2, (-1)), (3, (-1)), (4, (-1))] none [], .mk [(0, 3), (2, (-1)), (3, (-1)), (4, (-1))] none []]]
def pf_UpdateRaftVoterResponse : List FD := (FX.fds fx_UpdateRaftVoterResponse).take T_UpdateRaftVoterResponse.sc.len
def f_UpdateRaftVoterResponse : FD := ((FX.fds fx_UpdateRaftVoterResponse).drop T_UpdateRaftVoterResponse.sc.len).headD (.mk 0 0 0 0 0 0 0 [])
theorem fxok_UpdateRaftVoterResponse : FX.OkL Tryz.prog fx_UpdateRaftVoterResponse := ⟨⟨by kernel_rfl, rfl, trivial⟩, ⟨⟨by kernel_rfl, rfl, trivial⟩, ⟨⟨by kernel_rfl, (by show _ = _; kernel_rfl), ⟨⟨by kernel_rfl, rfl, trivial⟩, ⟨⟨by kernel_rfl, rfl, trivial⟩, ⟨⟨by kernel_rfl, rfl, trivial⟩, ⟨⟨by kernel_rfl, rfl, trivial⟩, trivial⟩⟩⟩⟩⟩, trivial⟩⟩⟩
theorem subs_UpdateRaftVoterResponse : uZ Tryz.prog tl_UpdateRaftVoterResponse.subs := ⟨by kernel_rfl, trivial⟩
theorem cbs_UpdateRaftVoterResponse : kEZ Tryz.prog tl_UpdateRaftVoterResponse.cbs := ⟨⟨by kernel_rfl, by kernel_rfl⟩, ⟨⟨by kernel_rfl, by kernel_rfl⟩, trivial⟩⟩
theorem msg_UpdateRaftVoterResponse : KtOk Tryz.prog F has ⟨6, 18, 19, 21, 22, 40, 23, 9, 7⟩ T_UpdateRaftVoterResponse tl_UpdateRaftVoterResponse fx_UpdateRaftVoterResponse pf_UpdateRaftVoterResponse f_UpdateRaftVoterResponse 0 [.int .i16 0, .int .i32 0, .int .i16 0, .int .i32 0, .int .i32 0, .string .empty, .int .i32 0, .map none, .map none] 0 where
  mx := by kernel_rfl
  maxv := by kernel_rfl
  newp := by kernel_rfl
  setv := by kernel_rfl
  rf := by kernel_rfl
  rd := by kernel_rfl
  tell := by kernel_rfl
  door := by kernel_rfl
  sm := by kernel_rfl
  fxs := fxok_UpdateRaftVoterResponse
  fds := by show _ = _; kernel_rfl
  cnt := by kernel_rfl
  dfl := ⟨kLD mixed (off := 3) (l := [(0, .int .i32 (-1)), (1, .int .i32 (-1))]) (by kernel_rfl) (z1 := [.int .i16 0, .int .i32 0, .int .i16 0]) (z := [.int .i32 0, .int .i32 0, .string .empty, .int .i32 0, .map none]) (z2 := [.map none]) rfl (kJQ (by kernel_rfl)), fun ver => kLD mixed (off := 3) (l := [(0, .int .i32 (-1)), (1, .int .i32 (-1))]) (by kernel_rfl) (z1 := [(.int .i16 ver), .int .i32 0, .int .i16 0]) (z := [.int .i32 (-1), .int .i32 (-1), .string .empty, .int .i32 0, .map none]) (z2 := [.map none]) rfl (kJQ (by kernel_rfl))⟩
  sdfl := df_call mixed (l := [(0, .int .i32 (-1)), (1, .int .i32 (-1))]) (by kernel_rfl) (kJQ (by kernel_rfl)) rfl
  dfs := ⟨trivial, trivial⟩
  okT := by kernel_rfl
  okL := by kernel_rfl
  subs := subs_UpdateRaftVoterResponse
  cbs := cbs_UpdateRaftVoterResponse
  fits := by kernel_rfl
  small := by kernel_rfl
  len := of_decide_eq_true (by kernel_rfl)
  tlen := of_decide_eq_true (by kernel_rfl)
  agree := by kernel_rfl
  most := by omega

end Go.Proofs.YtfoljfjkifiboaaGreatDoor
