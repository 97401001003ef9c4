/-
  The message AlterPartitionResponse: its schemes, and that the program's functions are as the schemes say.
-/
import Derived.Test.YtebigehbjfnfjaaL
namespace Go.Proofs.Ytebigehbjfnfjaa
open Go.Msk Go.Proofs
set_option maxRecDepth 100000

def T_AlterPartitionResponse : Fl := (.prm .i32 (.prm .i16 (.lss 122 64 (.prm .str (.prm .uuid (.lss 137 56 (.prm .i32 (.prm .i16 (.prm .i32 (.prm .i32 (.lsp .i32 4 (.prm .i8 (.prm .i32 (.tags 86)))))))) (.tags 86)))) (.tags 86))))
def a_AlterPartitionResponse : ATop := ⟨some 0, (.prm .all false .i32 ⟨106, none⟩ (.prm .all false .i16 ⟨111, none⟩ (.lss .all false ⟨87, some 88⟩ 19 (.prm (.rng 0 1) false .str ⟨101, some 102⟩ (.uid (.ge 2) 116 (.lss .all false ⟨87, some 88⟩ 8 (.prm .all false .i32 ⟨106, none⟩ (.prm .all false .i16 ⟨111, none⟩ (.prm .all false .i32 ⟨106, none⟩ (.prm .all false .i32 ⟨106, none⟩ (.lsp .all false ⟨87, some 88⟩ .i32 ⟨106, none⟩ (.prm (.ge 1) false .i8 ⟨89, none⟩ (.prm .all false .i32 ⟨106, none⟩ (.tags 91 90 92)))))))) (.tags 91 90 92)))) (.tags 91 90 92))))⟩
def fx_AlterPartitionResponse : List FX := [.mk [(0, 3), (2, (-1)), (3, (-1)), (4, (-1))] none [], .mk [(0, 2), (2, (-1)), (3, (-1)), (4, (-1))] none [], .mk [(0, 11), (2, (-1)), (3, (-1)), (4, (-1)), (6, 10)] (some 79) [.mk [(0, 8), (2, 1), (3, (-1)), (4, (-1))] none [], .mk [(0, 7), (1, 2), (2, (-1)), (3, (-1)), (4, (-1))] none [], .mk [(0, 11), (2, (-1)), (3, (-1)), (4, (-1)), (6, 10)] (some 121) [.mk [(0, 3), (2, (-1)), (3, (-1)), (4, (-1))] none [], .mk [(0, 2), (2, (-1)), (3, (-1)), (4, (-1))] none [], .mk [(0, 3), (2, (-1)), (3, (-1)), (4, (-1))] none [], .mk [(0, 3), (2, (-1)), (3, (-1)), (4, (-1))] none [], .mk [(0, 11), (2, (-1)), (3, (-1)), (4, (-1)), (6, 3)] none [], .mk [(0, 1), (1, 1), (2, (-1)), (3, (-1)), (4, (-1))] none [], .mk [(0, 3), (2, (-1)), (3, (-1)), (4, (-1))] none []]]]
theorem fxok_AlterPartitionResponse : FX.OkL Try.prog fx_AlterPartitionResponse := ⟨⟨by kernel_rfl, rfl, trivial⟩, ⟨⟨by kernel_rfl, rfl, trivial⟩, ⟨⟨by kernel_rfl, (by show _ = _; kernel_rfl), ⟨⟨by kernel_rfl, rfl, trivial⟩, ⟨⟨by kernel_rfl, rfl, trivial⟩, ⟨⟨by kernel_rfl, (by show _ = _; kernel_rfl), ⟨⟨by kernel_rfl, rfl, trivial⟩, ⟨⟨by kernel_rfl, rfl, trivial⟩, ⟨⟨by kernel_rfl, rfl, trivial⟩, ⟨⟨by kernel_rfl, rfl, trivial⟩, ⟨⟨by kernel_rfl, rfl, trivial⟩, ⟨⟨by kernel_rfl, rfl, trivial⟩, ⟨⟨by kernel_rfl, rfl, trivial⟩, trivial⟩⟩⟩⟩⟩⟩⟩⟩, trivial⟩⟩⟩⟩, trivial⟩⟩⟩
theorem mks_AlterPartitionResponse : T_AlterPartitionResponse.Mks Try.prog F := ⟨by kernel_rfl, ⟨by kernel_rfl, trivial, trivial⟩, trivial⟩
theorem msg_AlterPartitionResponse : MakeOk Try.prog F has ⟨34, 77, 78, 120, 80, 81, 82, 36, 35⟩ T_AlterPartitionResponse a_AlterPartitionResponse fx_AlterPartitionResponse 0 3 where
  mx := by kernel_rfl
  maxv := by kernel_rfl
  newp := by kernel_rfl
  dfl := ⟨[], by kernel_rfl, dfOk_of (by kernel_rfl)⟩
  setv := by kernel_rfl
  fill := by kernel_rfl
  ap := by kernel_rfl
  make := by kernel_rfl
  sm := by kernel_rfl
  fxs := fxok_AlterPartitionResponse
  cnt := by kernel_rfl
  okF := by kernel_rfl
  mks := mks_AlterPartitionResponse
  one := by kernel_rfl
  okA := by kernel_rfl
  agree := by kernel_rfl
  most := by omega

end Go.Proofs.Ytebigehbjfnfjaa
