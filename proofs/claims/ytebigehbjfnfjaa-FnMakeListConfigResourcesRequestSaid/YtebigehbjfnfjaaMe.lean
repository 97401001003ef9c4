/-
  The message ListConfigResourcesRequest: its schemes, and that the program's functions are as the schemes say.
-/
import Derived.Test.YtebigehbjfnfjaaL
namespace Go.Proofs.Ytebigehbjfnfjaa
open Go.Msk Go.Proofs
set_option maxRecDepth 100000

def T_ListConfigResourcesRequest : Fl := (.lsp .i8 1 (.tags 86))
def a_ListConfigResourcesRequest : ATop := ⟨some 0, (.lsp (.ge 1) false ⟨87, some 88⟩ .i8 ⟨89, none⟩ (.tags 91 90 92))⟩
def fx_ListConfigResourcesRequest : List FX := [.mk [(0, 11), (1, 1), (2, (-1)), (3, (-1)), (4, (-1)), (6, 1)] none []]
theorem fxok_ListConfigResourcesRequest : FX.OkL Try.prog fx_ListConfigResourcesRequest := ⟨⟨by kernel_rfl, rfl, trivial⟩, trivial⟩
theorem mks_ListConfigResourcesRequest : T_ListConfigResourcesRequest.Mks Try.prog F := trivial
theorem msg_ListConfigResourcesRequest : MakeOk Try.prog F has ⟨11, 38, 39, 84, 40, 41, 42, 15, 12⟩ T_ListConfigResourcesRequest a_ListConfigResourcesRequest fx_ListConfigResourcesRequest 0 1 where
  mx := by kernel_rfl
  maxv := by kernel_rfl
  newp := by kernel_rfl
  dfl := ⟨[], by kernel_rfl, dfOk_of (by kernel_rfl)⟩
  setv := by kernel_rfl
  fill := by kernel_rfl
  ap := by kernel_rfl
  make := by kernel_rfl
  sm := by kernel_rfl
  fxs := fxok_ListConfigResourcesRequest
  cnt := by kernel_rfl
  okF := by kernel_rfl
  mks := mks_ListConfigResourcesRequest
  one := by kernel_rfl
  okA := by kernel_rfl
  agree := by kernel_rfl
  most := by omega

end Go.Proofs.Ytebigehbjfnfjaa
