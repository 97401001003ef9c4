/-
  The message CreatePartitionsRequest: its schemes, and that the program's functions are as the schemes say.
-/
import Derived.Test.YtebigehbjfnfjaaL
namespace Go.Proofs.Ytebigehbjfnfjaa
open Go.Msk Go.Proofs
set_option maxRecDepth 100000

def T_CreatePartitionsRequest : Fl := (.lss 119 56 (.prm .str (.prm .i32 (.lss 136 32 (.lsp .i32 4 (.tags 86)) (.tags 86)))) (.prm .i32 (.prm .bool (.tags 86))))
def a_CreatePartitionsRequest : ATop := ⟨some 2, (.lss .all false ⟨87, some 88⟩ 4 (.prm .all false .str ⟨101, some 102⟩ (.prm .all false .i32 ⟨106, none⟩ (.lss .all true ⟨107, some 108⟩ 2 (.lsp .all false ⟨87, some 88⟩ .i32 ⟨106, none⟩ (.tags 91 90 92)) (.tags 91 90 92)))) (.prm .all false .i32 ⟨106, none⟩ (.prm .all false .bool ⟨103, none⟩ (.tags 91 90 92))))⟩
def fx_CreatePartitionsRequest : List FX := [.mk [(0, 11), (2, (-1)), (3, (-1)), (4, (-1)), (6, 10)] (some 73) [.mk [(0, 8), (2, (-1)), (3, (-1)), (4, (-1))] none [], .mk [(0, 3), (2, (-1)), (3, (-1)), (4, (-1))] none [], .mk [(0, 11), (2, (-1)), (3, 0), (4, (-1)), (6, 10)] (some 118) [.mk [(0, 11), (2, (-1)), (3, (-1)), (4, (-1)), (6, 3)] none []]], .mk [(0, 3), (2, (-1)), (3, (-1)), (4, (-1)), (5, 15000)] none [], .mk [(0, 0), (2, (-1)), (3, (-1)), (4, (-1))] none []]
theorem fxok_CreatePartitionsRequest : FX.OkL Try.prog fx_CreatePartitionsRequest := ⟨⟨by kernel_rfl, (by show _ = _; kernel_rfl), ⟨⟨by kernel_rfl, rfl, trivial⟩, ⟨⟨by kernel_rfl, rfl, trivial⟩, ⟨⟨by kernel_rfl, (by show _ = _; kernel_rfl), ⟨⟨by kernel_rfl, rfl, trivial⟩, trivial⟩⟩, trivial⟩⟩⟩⟩, ⟨⟨by kernel_rfl, rfl, trivial⟩, ⟨⟨by kernel_rfl, rfl, trivial⟩, trivial⟩⟩⟩
theorem mks_CreatePartitionsRequest : T_CreatePartitionsRequest.Mks Try.prog F := ⟨by kernel_rfl, ⟨by kernel_rfl, trivial, trivial⟩, trivial⟩
theorem msg_CreatePartitionsRequest : MakeOk Try.prog F has ⟨31, 71, 72, 117, 74, 75, 76, 33, 32⟩ T_CreatePartitionsRequest a_CreatePartitionsRequest fx_CreatePartitionsRequest 2 3 where
  mx := by kernel_rfl
  maxv := by kernel_rfl
  newp := by kernel_rfl
  dfl := ⟨[(2, .int .i32 15000)], by kernel_rfl, dfOk_of (by kernel_rfl)⟩
  setv := by kernel_rfl
  fill := by kernel_rfl
  ap := by kernel_rfl
  make := by kernel_rfl
  sm := by kernel_rfl
  fxs := fxok_CreatePartitionsRequest
  cnt := by kernel_rfl
  okF := by kernel_rfl
  mks := mks_CreatePartitionsRequest
  one := by kernel_rfl
  okA := by kernel_rfl
  agree := by kernel_rfl
  most := by omega

end Go.Proofs.Ytebigehbjfnfjaa
