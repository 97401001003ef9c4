/-
  The message ConsumerGroupDescribeRequest: its schemes, and that the program's functions are as the schemes say.
-/
import Derived.Test.YtebigehbjfnfjaaL
namespace Go.Proofs.Ytebigehbjfnfjaa
open Go.Msk Go.Proofs
set_option maxRecDepth 100000

def T_ConsumerGroupDescribeRequest : Fl := (.lsp .str 16 (.prm .bool (.tags 86)))
def a_ConsumerGroupDescribeRequest : ATop := ⟨some 0, (.lsp .all false ⟨87, some 88⟩ .str ⟨101, some 102⟩ (.prm .all false .bool ⟨103, none⟩ (.tags 91 90 92)))⟩
def fx_ConsumerGroupDescribeRequest : List FX := [.mk [(0, 11), (2, (-1)), (3, (-1)), (4, (-1)), (6, 8)] none [], .mk [(0, 0), (2, (-1)), (3, (-1)), (4, (-1))] none []]
theorem fxok_ConsumerGroupDescribeRequest : FX.OkL Try.prog fx_ConsumerGroupDescribeRequest := ⟨⟨by kernel_rfl, rfl, trivial⟩, ⟨⟨by kernel_rfl, rfl, trivial⟩, trivial⟩⟩
theorem mks_ConsumerGroupDescribeRequest : T_ConsumerGroupDescribeRequest.Mks Try.prog F := trivial
theorem msg_ConsumerGroupDescribeRequest : MakeOk Try.prog F has ⟨19, 48, 49, 100, 50, 51, 52, 21, 20⟩ T_ConsumerGroupDescribeRequest a_ConsumerGroupDescribeRequest fx_ConsumerGroupDescribeRequest 0 1 where
  mx := by kernel_rfl
  maxv := by kernel_rfl
  newp := by kernel_rfl
  dfl := ⟨[], by kernel_rfl, dfOk_of (by kernel_rfl)⟩
  setv := by kernel_rfl
  fill := by kernel_rfl
  ap := by kernel_rfl
  make := by kernel_rfl
  sm := by kernel_rfl
  fxs := fxok_ConsumerGroupDescribeRequest
  cnt := by kernel_rfl
  okF := by kernel_rfl
  mks := mks_ConsumerGroupDescribeRequest
  one := by kernel_rfl
  okA := by kernel_rfl
  agree := by kernel_rfl
  most := by omega

end Go.Proofs.Ytebigehbjfnfjaa
