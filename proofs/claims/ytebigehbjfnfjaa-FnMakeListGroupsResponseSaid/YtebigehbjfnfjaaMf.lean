/-
  The message ListGroupsResponse: its schemes, and that the program's functions are as the schemes say.
-/
import Derived.Test.YtebigehbjfnfjaaL
namespace Go.Proofs.Ytebigehbjfnfjaa
open Go.Msk Go.Proofs
set_option maxRecDepth 100000

def T_ListGroupsResponse : Fl := (.prm .i32 (.prm .i16 (.lss 110 72 (.prm .str (.prm .str (.prm .str (.prm .str (.tags 86))))) (.tags 86))))
def a_ListGroupsResponse : ATop := ⟨some 3, (.prm (.ge 1) false .i32 ⟨106, none⟩ (.prm .all false .i16 ⟨111, none⟩ (.lss .all false ⟨87, some 88⟩ 5 (.prm .all false .str ⟨101, some 102⟩ (.prm .all false .str ⟨101, some 102⟩ (.prm (.ge 4) false .str ⟨101, some 102⟩ (.prm (.ge 5) false .str ⟨101, some 102⟩ (.tags 91 90 92))))) (.tags 91 90 92))))⟩
def fx_ListGroupsResponse : List FX := [.mk [(0, 3), (1, 1), (2, (-1)), (3, (-1)), (4, (-1))] none [], .mk [(0, 2), (2, (-1)), (3, (-1)), (4, (-1))] none [], .mk [(0, 11), (2, (-1)), (3, (-1)), (4, (-1)), (6, 10)] (some 61) [.mk [(0, 8), (2, (-1)), (3, (-1)), (4, (-1))] none [], .mk [(0, 8), (2, (-1)), (3, (-1)), (4, (-1))] none [], .mk [(0, 8), (1, 4), (2, (-1)), (3, (-1)), (4, (-1))] none [], .mk [(0, 8), (1, 5), (2, (-1)), (3, (-1)), (4, (-1))] none []]]
theorem fxok_ListGroupsResponse : FX.OkL Try.prog fx_ListGroupsResponse := ⟨⟨by kernel_rfl, rfl, trivial⟩, ⟨⟨by kernel_rfl, rfl, trivial⟩, ⟨⟨by kernel_rfl, (by show _ = _; kernel_rfl), ⟨⟨by kernel_rfl, rfl, trivial⟩, ⟨⟨by kernel_rfl, rfl, trivial⟩, ⟨⟨by kernel_rfl, rfl, trivial⟩, ⟨⟨by kernel_rfl, rfl, trivial⟩, trivial⟩⟩⟩⟩⟩, trivial⟩⟩⟩
theorem mks_ListGroupsResponse : T_ListGroupsResponse.Mks Try.prog F := ⟨by kernel_rfl, trivial, trivial⟩
theorem msg_ListGroupsResponse : MakeOk Try.prog F has ⟨25, 59, 60, 109, 62, 63, 64, 27, 26⟩ T_ListGroupsResponse a_ListGroupsResponse fx_ListGroupsResponse 3 5 where
  mx := by kernel_rfl
  maxv := by kernel_rfl
  newp := by kernel_rfl
  dfl := ⟨[], by kernel_rfl, dfOk_of (by kernel_rfl)⟩
  setv := by kernel_rfl
  fill := by kernel_rfl
  ap := by kernel_rfl
  make := by kernel_rfl
  sm := by kernel_rfl
  fxs := fxok_ListGroupsResponse
  cnt := by kernel_rfl
  okF := by kernel_rfl
  mks := mks_ListGroupsResponse
  one := by kernel_rfl
  okA := by kernel_rfl
  agree := by kernel_rfl
  most := by omega

end Go.Proofs.Ytebigehbjfnfjaa
