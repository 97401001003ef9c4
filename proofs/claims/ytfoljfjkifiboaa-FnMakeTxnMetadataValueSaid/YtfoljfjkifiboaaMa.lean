/-
  The message TxnMetadataValue: its schemes, and that the program's functions are as the schemes say.
-/
import Derived.Test.YtfoljfjkifiboaaL
namespace Go.Proofs.Ytfoljfjkifiboaa
open Go.Msk Go.Proofs
set_option maxRecDepth 100000

def T_TxnMetadataValue : Fl := (.prm .i64 (.prm .i16 (.prm .i32 (.prm .i8 (.lss 23 48 (.prm .str (.lsp .i32 4 (.tags 24))) (.prm .i64 (.prm .i64 .nil)))))))
def ap_TxnMetadataValue : Ap := (.prm .all false .i64 ⟨26, none⟩ (.prm .all false .i16 ⟨25, none⟩ (.prm .all false .i32 ⟨27, none⟩ (.prm .all true .i8 ⟨28, none⟩ (.lss .all true ⟨29, some 30⟩ 3 (.prm .all false .str ⟨31, some 32⟩ (.lsp .all false ⟨33, some 34⟩ .i32 ⟨27, none⟩ (.tags 36 35 37))) (.prm .all false .i64 ⟨26, none⟩ (.prm .all false .i64 ⟨26, none⟩ .nil)))))))
def k_TxnMetadataValue : KTop := ⟨1, .prm .all false .i16 ⟨25, none⟩ ap_TxnMetadataValue, 8, [⟨.i64, 8, (-1), 26⟩, ⟨.i64, 8, (-1), 26⟩, ⟨.i16, 2, 0, 25⟩, ⟨.i16, 2, (-1), 25⟩], 36, 35, 37⟩
def fx_TxnMetadataValue : List FX := [.mk [(0, 4), (2, (-1)), (3, (-1)), (4, (-1))] none [], .mk [(0, 2), (2, (-1)), (3, (-1)), (4, (-1))] none [], .mk [(0, 3), (2, (-1)), (3, (-1)), (4, (-1))] none [], .mk [(0, 1), (2, (-1)), (3, (-1)), (4, (-1))] none [], .mk [(0, 11), (2, (-1)), (3, (-1)), (4, (-1)), (6, 10)] (some 12) [.mk [(0, 8), (2, (-1)), (3, (-1)), (4, (-1))] none [], .mk [(0, 11), (2, (-1)), (3, (-1)), (4, (-1)), (6, 3)] none []], .mk [(0, 4), (2, (-1)), (3, (-1)), (4, (-1))] none [], .mk [(0, 4), (2, (-1)), (3, (-1)), (4, (-1))] none [], .mk [(0, 4), (2, (-1)), (3, (-1)), (4, 0), (5, (-1))] none [], .mk [(0, 4), (2, (-1)), (3, (-1)), (4, 1), (5, (-1))] none [], .mk [(0, 2), (2, (-1)), (3, (-1)), (4, 2)] none [], .mk [(0, 2), (2, (-1)), (3, (-1)), (4, 3), (5, (-1))] none []]
def pf_TxnMetadataValue : List FD := (FX.fds fx_TxnMetadataValue).take T_TxnMetadataValue.cnt
def tg_TxnMetadataValue : List FD := (FX.fds fx_TxnMetadataValue).drop T_TxnMetadataValue.cnt
theorem fxok_TxnMetadataValue : FX.OkL Try.prog fx_TxnMetadataValue := ⟨⟨by kernel_rfl, rfl, trivial⟩, ⟨⟨by kernel_rfl, rfl, trivial⟩, ⟨⟨by kernel_rfl, rfl, trivial⟩, ⟨⟨by kernel_rfl, rfl, trivial⟩, ⟨⟨by kernel_rfl, (by show _ = _; kernel_rfl), ⟨⟨by kernel_rfl, rfl, trivial⟩, ⟨⟨by kernel_rfl, rfl, trivial⟩, trivial⟩⟩⟩, ⟨⟨by kernel_rfl, rfl, trivial⟩, ⟨⟨by kernel_rfl, rfl, trivial⟩, ⟨⟨by kernel_rfl, rfl, trivial⟩, ⟨⟨by kernel_rfl, rfl, trivial⟩, ⟨⟨by kernel_rfl, rfl, trivial⟩, ⟨⟨by kernel_rfl, rfl, trivial⟩, trivial⟩⟩⟩⟩⟩⟩⟩⟩⟩⟩⟩
theorem mks_TxnMetadataValue : (T_TxnMetadataValue.app (tkFl k_TxnMetadataValue.tks (F tSet))).Mks Try.prog F := ⟨by kernel_rfl, trivial, trivial⟩
theorem msg_TxnMetadataValue : MkkOk Try.prog F has ⟨13, 14, 7, 5⟩ T_TxnMetadataValue ap_TxnMetadataValue k_TxnMetadataValue fx_TxnMetadataValue pf_TxnMetadataValue tg_TxnMetadataValue 1 1 where
  fill := by kernel_rfl
  apc := by kernel_rfl
  make := by kernel_rfl
  sm := by kernel_rfl
  fxs := fxok_TxnMetadataValue
  fds := (List.take_append_drop _ _).symm
  cnt := by kernel_rfl
  okF := by kernel_rfl
  mks := mks_TxnMetadataValue
  okT := by kernel_rfl
  flat := by kernel_rfl
  ver := by kernel_rfl
  off := by kernel_rfl
  agree := by kernel_rfl
  most := by omega

end Go.Proofs.Ytfoljfjkifiboaa
