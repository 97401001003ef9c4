/-
  The message AssignReplicasToDirsRequest: its schemes, and that the program's functions are as the schemes say.
-/
import Derived.Test.YtebigehbjfnfjaaL
namespace Go.Proofs.Ytebigehbjfnfjaa
open Go.Msk Go.Proofs
set_option maxRecDepth 100000

def T_AssignReplicasToDirsRequest : Fl := (.prm .i32 (.prm .i64 (.lss 114 48 (.prm .uuid (.lss 134 48 (.prm .uuid (.lss 141 16 (.prm .i32 (.tags 86)) (.tags 86))) (.tags 86))) (.tags 86))))
def a_AssignReplicasToDirsRequest : ATop := ⟨some 0, (.prm .all false .i32 ⟨106, none⟩ (.prm .all false .i64 ⟨115, none⟩ (.lss .all false ⟨87, some 88⟩ 18 (.uid .all 116 (.lss .all false ⟨87, some 88⟩ 18 (.uid .all 116 (.lss .all false ⟨87, some 88⟩ 2 (.prm .all false .i32 ⟨106, none⟩ (.tags 91 90 92)) (.tags 91 90 92))) (.tags 91 90 92))) (.tags 91 90 92))))⟩
def fx_AssignReplicasToDirsRequest : List FX := [.mk [(0, 3), (2, (-1)), (3, (-1)), (4, (-1))] none [], .mk [(0, 4), (2, (-1)), (3, (-1)), (4, (-1)), (5, (-1))] none [], .mk [(0, 11), (2, (-1)), (3, (-1)), (4, (-1)), (6, 10)] (some 67) [.mk [(0, 7), (2, (-1)), (3, (-1)), (4, (-1))] none [], .mk [(0, 11), (2, (-1)), (3, (-1)), (4, (-1)), (6, 10)] (some 113) [.mk [(0, 7), (2, (-1)), (3, (-1)), (4, (-1))] none [], .mk [(0, 11), (2, (-1)), (3, (-1)), (4, (-1)), (6, 10)] (some 132) [.mk [(0, 3), (2, (-1)), (3, (-1)), (4, (-1))] none []]]]]
theorem fxok_AssignReplicasToDirsRequest : FX.OkL Try.prog fx_AssignReplicasToDirsRequest := ⟨⟨by kernel_rfl, rfl, trivial⟩, ⟨⟨by kernel_rfl, rfl, trivial⟩, ⟨⟨by kernel_rfl, (by show _ = _; kernel_rfl), ⟨⟨by kernel_rfl, rfl, trivial⟩, ⟨⟨by kernel_rfl, (by show _ = _; kernel_rfl), ⟨⟨by kernel_rfl, rfl, trivial⟩, ⟨⟨by kernel_rfl, (by show _ = _; kernel_rfl), ⟨⟨by kernel_rfl, rfl, trivial⟩, trivial⟩⟩, trivial⟩⟩⟩, trivial⟩⟩⟩, trivial⟩⟩⟩
theorem mks_AssignReplicasToDirsRequest : T_AssignReplicasToDirsRequest.Mks Try.prog F := ⟨by kernel_rfl, ⟨by kernel_rfl, ⟨by kernel_rfl, trivial, trivial⟩, trivial⟩, trivial⟩
theorem msg_AssignReplicasToDirsRequest : MakeOk Try.prog F has ⟨28, 65, 66, 112, 68, 69, 70, 30, 29⟩ T_AssignReplicasToDirsRequest a_AssignReplicasToDirsRequest fx_AssignReplicasToDirsRequest 0 0 where
  mx := by kernel_rfl
  maxv := by kernel_rfl
  newp := by kernel_rfl
  dfl := ⟨[(2, .int .i64 (-1))], by kernel_rfl, dfOk_of (by kernel_rfl)⟩
  setv := by kernel_rfl
  fill := by kernel_rfl
  ap := by kernel_rfl
  make := by kernel_rfl
  sm := by kernel_rfl
  fxs := fxok_AssignReplicasToDirsRequest
  cnt := by kernel_rfl
  okF := by kernel_rfl
  mks := mks_AssignReplicasToDirsRequest
  one := by kernel_rfl
  okA := by kernel_rfl
  agree := by kernel_rfl
  most := by omega

end Go.Proofs.Ytebigehbjfnfjaa
