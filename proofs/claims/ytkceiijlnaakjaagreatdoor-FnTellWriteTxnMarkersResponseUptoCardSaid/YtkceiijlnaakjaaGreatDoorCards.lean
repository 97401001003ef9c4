/-
  DERIVED. GIVEN WITH THE SEED: THE CARDS: each row of YtkceiijlnaakjaaGreatDoorRows.lean that lists a variable, with what it lists TIED to the program's text (the seventh form; the later family's looks); each row that meets fmt, with fmt's text TOLD by the authors' own Lean function (tested against real Go, not proved from fmt's source: count such statements apart). THE CARD IS WHAT COUNTS. Prove the row's statement (the work); the ties are given (YtkceiijlnaakjaaGreatDoorTie.lean); close each card by the builder's one call (the guide's Derived/Test/ToyasCard.lean, 'card_holds'). Laid BY PROGRAM, IN A SANDBOX (cutbox-door.mjs). By AI agents, Wed Nov 11 2026. No macro, syntax, notation, axiom, sorry.
-/
import Derived.Test.YtkceiijlnaakjaaGreatDoorRows
import GoSem.ClaimSeven
namespace Go.Proofs.YtkceiijlnaakjaaGreatDoor
namespace Rows

/-- THE TIED CARD OF 'laws.FnTellAlterUserSCRAMCredentialsResponse'. -/
def fnTellAlterUserSCRAMCredentialsResponseCard : Claim7 := { stood := { row := fnTellAlterUserSCRAMCredentialsResponseRow, standIns := [], harness := (true, "42b49a8ac704914b2ddbc483d9508e2c5c07f5e9685188a43ad7ee497d91d1f1"), looks := false }, kinds := [], alts := [], laidByText := true, laidKinds := [.sentinel], laidTests := true, laidLooks := .later }
def FnTellAlterUserSCRAMCredentialsResponseCardSaid : Prop := Claim7.holds Tryz.pinned (.plain (OpenSpec.ofChange fnTellAlterUserSCRAMCredentialsResponseSpec)) fnTellAlterUserSCRAMCredentialsResponseCard

/-- THE TIED CARD OF 'laws.FnTellAlterShareGroupOffsetsRequest'. -/
def fnTellAlterShareGroupOffsetsRequestCard : Claim7 := { stood := { row := fnTellAlterShareGroupOffsetsRequestRow, standIns := [], harness := (true, "42b49a8ac704914b2ddbc483d9508e2c5c07f5e9685188a43ad7ee497d91d1f1"), looks := false }, kinds := [], alts := [], laidByText := true, laidKinds := [.sentinel], laidTests := true, laidLooks := .later }
def FnTellAlterShareGroupOffsetsRequestCardSaid : Prop := Claim7.holds Tryz.pinned (.plain (OpenSpec.ofChange fnTellAlterShareGroupOffsetsRequestSpec)) fnTellAlterShareGroupOffsetsRequestCard

/-- THE TIED CARD OF 'laws.FnTellWriteTxnMarkersResponse'. -/
def fnTellWriteTxnMarkersResponseCard : Claim7 := { stood := { row := fnTellWriteTxnMarkersResponseRow, standIns := [], harness := (true, "42b49a8ac704914b2ddbc483d9508e2c5c07f5e9685188a43ad7ee497d91d1f1"), looks := false }, kinds := [], alts := [], laidByText := true, laidKinds := [.sentinel], laidTests := true, laidLooks := .later }
def FnTellWriteTxnMarkersResponseCardSaid : Prop := Claim7.holds Tryz.pinned (.plain (OpenSpec.ofChange fnTellWriteTxnMarkersResponseSpec)) fnTellWriteTxnMarkersResponseCard

/-- THE TIED CARD OF 'laws.FnTellWriteShareGroupStateRequest'. -/
def fnTellWriteShareGroupStateRequestCard : Claim7 := { stood := { row := fnTellWriteShareGroupStateRequestRow, standIns := [], harness := (true, "42b49a8ac704914b2ddbc483d9508e2c5c07f5e9685188a43ad7ee497d91d1f1"), looks := false }, kinds := [], alts := [], laidByText := true, laidKinds := [.sentinel], laidTests := true, laidLooks := .later }
def FnTellWriteShareGroupStateRequestCardSaid : Prop := Claim7.holds Tryz.pinned (.plain (OpenSpec.ofChange fnTellWriteShareGroupStateRequestSpec)) fnTellWriteShareGroupStateRequestCard

/-- THE TIED CARD OF 'laws.FnTellDescribeConfigsResponse'. -/
def fnTellDescribeConfigsResponseCard : Claim7 := { stood := { row := fnTellDescribeConfigsResponseRow, standIns := [], harness := (true, "42b49a8ac704914b2ddbc483d9508e2c5c07f5e9685188a43ad7ee497d91d1f1"), looks := false }, kinds := [], alts := [], laidByText := true, laidKinds := [.sentinel], laidTests := true, laidLooks := .later }
def FnTellDescribeConfigsResponseCardSaid : Prop := Claim7.holds Tryz.pinned (.plain (OpenSpec.ofChange fnTellDescribeConfigsResponseSpec)) fnTellDescribeConfigsResponseCard

/-- THE SECOND FORM's CARD OF 'laws.FnTellAlterUserSCRAMCredentialsResponse'. -/
def fnTellAlterUserSCRAMCredentialsResponseUptoCard : Claim7 := { stood := { row := fnTellAlterUserSCRAMCredentialsResponseUptoRow, standIns := [], harness := (true, "42b49a8ac704914b2ddbc483d9508e2c5c07f5e9685188a43ad7ee497d91d1f1"), looks := false }, kinds := [], alts := [], laidByText := true, laidKinds := [.sentinel], laidTests := true, laidLooks := .later }
def FnTellAlterUserSCRAMCredentialsResponseUptoCardSaid : Prop := Claim7.holds Tryz.pinned (.plain (OpenSpec.upto fnTellAlterUserSCRAMCredentialsResponseSpec)) fnTellAlterUserSCRAMCredentialsResponseUptoCard

/-- THE SECOND FORM's CARD OF 'laws.FnTellAlterShareGroupOffsetsRequest'. -/
def fnTellAlterShareGroupOffsetsRequestUptoCard : Claim7 := { stood := { row := fnTellAlterShareGroupOffsetsRequestUptoRow, standIns := [], harness := (true, "42b49a8ac704914b2ddbc483d9508e2c5c07f5e9685188a43ad7ee497d91d1f1"), looks := false }, kinds := [], alts := [], laidByText := true, laidKinds := [.sentinel], laidTests := true, laidLooks := .later }
def FnTellAlterShareGroupOffsetsRequestUptoCardSaid : Prop := Claim7.holds Tryz.pinned (.plain (OpenSpec.upto fnTellAlterShareGroupOffsetsRequestSpec)) fnTellAlterShareGroupOffsetsRequestUptoCard

/-- THE SECOND FORM's CARD OF 'laws.FnTellWriteTxnMarkersResponse'. -/
def fnTellWriteTxnMarkersResponseUptoCard : Claim7 := { stood := { row := fnTellWriteTxnMarkersResponseUptoRow, standIns := [], harness := (true, "42b49a8ac704914b2ddbc483d9508e2c5c07f5e9685188a43ad7ee497d91d1f1"), looks := false }, kinds := [], alts := [], laidByText := true, laidKinds := [.sentinel], laidTests := true, laidLooks := .later }
def FnTellWriteTxnMarkersResponseUptoCardSaid : Prop := Claim7.holds Tryz.pinned (.plain (OpenSpec.upto fnTellWriteTxnMarkersResponseSpec)) fnTellWriteTxnMarkersResponseUptoCard

/-- THE SECOND FORM's CARD OF 'laws.FnTellWriteShareGroupStateRequest'. -/
def fnTellWriteShareGroupStateRequestUptoCard : Claim7 := { stood := { row := fnTellWriteShareGroupStateRequestUptoRow, standIns := [], harness := (true, "42b49a8ac704914b2ddbc483d9508e2c5c07f5e9685188a43ad7ee497d91d1f1"), looks := false }, kinds := [], alts := [], laidByText := true, laidKinds := [.sentinel], laidTests := true, laidLooks := .later }
def FnTellWriteShareGroupStateRequestUptoCardSaid : Prop := Claim7.holds Tryz.pinned (.plain (OpenSpec.upto fnTellWriteShareGroupStateRequestSpec)) fnTellWriteShareGroupStateRequestUptoCard

/-- THE SECOND FORM's CARD OF 'laws.FnTellDescribeConfigsResponse'. -/
def fnTellDescribeConfigsResponseUptoCard : Claim7 := { stood := { row := fnTellDescribeConfigsResponseUptoRow, standIns := [], harness := (true, "42b49a8ac704914b2ddbc483d9508e2c5c07f5e9685188a43ad7ee497d91d1f1"), looks := false }, kinds := [], alts := [], laidByText := true, laidKinds := [.sentinel], laidTests := true, laidLooks := .later }
def FnTellDescribeConfigsResponseUptoCardSaid : Prop := Claim7.holds Tryz.pinned (.plain (OpenSpec.upto fnTellDescribeConfigsResponseSpec)) fnTellDescribeConfigsResponseUptoCard
end Rows
end Go.Proofs.YtkceiijlnaakjaaGreatDoor
