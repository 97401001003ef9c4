/-
  DERIVED. GIVEN WITH THE SEED: THE CARDS: each row of YthjbggibpkgmpaaGreatDoorRows.lean that lists a variable, with what it lists TIED to the program's text (the seventh form; the later family's looks); each row that meets fmt, with fmt's text TOLD by the authors' own Lean function (tested against real Go, not proved from fmt's source: count such statements apart). THE CARD IS WHAT COUNTS. Prove the row's statement (the work); the ties are given (YthjbggibpkgmpaaGreatDoorTie.lean); close each card by the builder's one call (the guide's Derived/Test/ToyasCard.lean, 'card_holds'). Laid BY PROGRAM, IN A SANDBOX (cutbox-door.mjs). By AI agents, Wed Nov 11 2026. No macro, syntax, notation, axiom, sorry.
-/
import Derived.Test.YthjbggibpkgmpaaGreatDoorRows
import GoSem.ClaimSeven
namespace Go.Proofs.YthjbggibpkgmpaaGreatDoor
namespace Rows

/-- THE TIED CARD OF 'laws.FnBehindDescribeTransactionsRequest'. -/
def fnBehindDescribeTransactionsRequestCard : Claim7 := { stood := { row := fnBehindDescribeTransactionsRequestRow, standIns := [], harness := (true, "7843e2e327881765293ecb2c7a7d5cd1c4cc285ad5e185d22ed35e564e813dfc"), looks := false }, kinds := [], alts := [], laidByText := true, laidKinds := [.sentinel], laidTests := true, laidLooks := .later }
def FnBehindDescribeTransactionsRequestCardSaid : Prop := Claim7.holds Tryz.pinned (.plain (OpenSpec.ofChange fnBehindDescribeTransactionsRequestSpec)) fnBehindDescribeTransactionsRequestCard

/-- THE TIED CARD OF 'laws.FnBehindDeleteShareGroupOffsetsResponse'. -/
def fnBehindDeleteShareGroupOffsetsResponseCard : Claim7 := { stood := { row := fnBehindDeleteShareGroupOffsetsResponseRow, standIns := [], harness := (true, "7843e2e327881765293ecb2c7a7d5cd1c4cc285ad5e185d22ed35e564e813dfc"), looks := false }, kinds := [], alts := [], laidByText := true, laidKinds := [.sentinel], laidTests := true, laidLooks := .later }
def FnBehindDeleteShareGroupOffsetsResponseCardSaid : Prop := Claim7.holds Tryz.pinned (.plain (OpenSpec.ofChange fnBehindDeleteShareGroupOffsetsResponseSpec)) fnBehindDeleteShareGroupOffsetsResponseCard

/-- THE TIED CARD OF 'laws.FnBehindControlledShutdownResponse'. -/
def fnBehindControlledShutdownResponseCard : Claim7 := { stood := { row := fnBehindControlledShutdownResponseRow, standIns := [], harness := (true, "7843e2e327881765293ecb2c7a7d5cd1c4cc285ad5e185d22ed35e564e813dfc"), looks := false }, kinds := [], alts := [], laidByText := true, laidKinds := [.sentinel], laidTests := true, laidLooks := .later }
def FnBehindControlledShutdownResponseCardSaid : Prop := Claim7.holds Tryz.pinned (.plain (OpenSpec.ofChange fnBehindControlledShutdownResponseSpec)) fnBehindControlledShutdownResponseCard

/-- THE TIED CARD OF 'laws.FnBehindDescribeUserSCRAMCredentialsResponse'. -/
def fnBehindDescribeUserSCRAMCredentialsResponseCard : Claim7 := { stood := { row := fnBehindDescribeUserSCRAMCredentialsResponseRow, standIns := [], harness := (true, "7843e2e327881765293ecb2c7a7d5cd1c4cc285ad5e185d22ed35e564e813dfc"), looks := false }, kinds := [], alts := [], laidByText := true, laidKinds := [.sentinel], laidTests := true, laidLooks := .later }
def FnBehindDescribeUserSCRAMCredentialsResponseCardSaid : Prop := Claim7.holds Tryz.pinned (.plain (OpenSpec.ofChange fnBehindDescribeUserSCRAMCredentialsResponseSpec)) fnBehindDescribeUserSCRAMCredentialsResponseCard

/-- THE TIED CARD OF 'laws.FnBehindIncrementalAlterConfigsRequest'. -/
def fnBehindIncrementalAlterConfigsRequestCard : Claim7 := { stood := { row := fnBehindIncrementalAlterConfigsRequestRow, standIns := [], harness := (true, "7843e2e327881765293ecb2c7a7d5cd1c4cc285ad5e185d22ed35e564e813dfc"), looks := false }, kinds := [], alts := [], laidByText := true, laidKinds := [.sentinel], laidTests := true, laidLooks := .later }
def FnBehindIncrementalAlterConfigsRequestCardSaid : Prop := Claim7.holds Tryz.pinned (.plain (OpenSpec.ofChange fnBehindIncrementalAlterConfigsRequestSpec)) fnBehindIncrementalAlterConfigsRequestCard

/-- THE TIED CARD OF 'laws.FnBehindAddPartitionsToTxnResponse'. -/
def fnBehindAddPartitionsToTxnResponseCard : Claim7 := { stood := { row := fnBehindAddPartitionsToTxnResponseRow, standIns := [], harness := (true, "7843e2e327881765293ecb2c7a7d5cd1c4cc285ad5e185d22ed35e564e813dfc"), looks := false }, kinds := [], alts := [], laidByText := true, laidKinds := [.sentinel], laidTests := true, laidLooks := .later }
def FnBehindAddPartitionsToTxnResponseCardSaid : Prop := Claim7.holds Tryz.pinned (.plain (OpenSpec.ofChange fnBehindAddPartitionsToTxnResponseSpec)) fnBehindAddPartitionsToTxnResponseCard

/-- THE TIED CARD OF 'laws.FnBehindDeleteACLsResponse'. -/
def fnBehindDeleteACLsResponseCard : Claim7 := { stood := { row := fnBehindDeleteACLsResponseRow, standIns := [], harness := (true, "7843e2e327881765293ecb2c7a7d5cd1c4cc285ad5e185d22ed35e564e813dfc"), looks := false }, kinds := [], alts := [], laidByText := true, laidKinds := [.sentinel], laidTests := true, laidLooks := .later }
def FnBehindDeleteACLsResponseCardSaid : Prop := Claim7.holds Tryz.pinned (.plain (OpenSpec.ofChange fnBehindDeleteACLsResponseSpec)) fnBehindDeleteACLsResponseCard

/-- THE TIED CARD OF 'laws.FnBehindDescribeShareGroupOffsetsResponse'. -/
def fnBehindDescribeShareGroupOffsetsResponseCard : Claim7 := { stood := { row := fnBehindDescribeShareGroupOffsetsResponseRow, standIns := [], harness := (true, "7843e2e327881765293ecb2c7a7d5cd1c4cc285ad5e185d22ed35e564e813dfc"), looks := false }, kinds := [], alts := [], laidByText := true, laidKinds := [.sentinel], laidTests := true, laidLooks := .later }
def FnBehindDescribeShareGroupOffsetsResponseCardSaid : Prop := Claim7.holds Tryz.pinned (.plain (OpenSpec.ofChange fnBehindDescribeShareGroupOffsetsResponseSpec)) fnBehindDescribeShareGroupOffsetsResponseCard

/-- THE TIED CARD OF 'laws.FnBehindEndQuorumEpochRequest'. -/
def fnBehindEndQuorumEpochRequestCard : Claim7 := { stood := { row := fnBehindEndQuorumEpochRequestRow, standIns := [], harness := (true, "7843e2e327881765293ecb2c7a7d5cd1c4cc285ad5e185d22ed35e564e813dfc"), looks := false }, kinds := [], alts := [], laidByText := true, laidKinds := [.sentinel], laidTests := true, laidLooks := .later }
def FnBehindEndQuorumEpochRequestCardSaid : Prop := Claim7.holds Tryz.pinned (.plain (OpenSpec.ofChange fnBehindEndQuorumEpochRequestSpec)) fnBehindEndQuorumEpochRequestCard

/-- THE TIED CARD OF 'laws.FnBehindDescribeQuorumRequest'. -/
def fnBehindDescribeQuorumRequestCard : Claim7 := { stood := { row := fnBehindDescribeQuorumRequestRow, standIns := [], harness := (true, "7843e2e327881765293ecb2c7a7d5cd1c4cc285ad5e185d22ed35e564e813dfc"), looks := false }, kinds := [], alts := [], laidByText := true, laidKinds := [.sentinel], laidTests := true, laidLooks := .later }
def FnBehindDescribeQuorumRequestCardSaid : Prop := Claim7.holds Tryz.pinned (.plain (OpenSpec.ofChange fnBehindDescribeQuorumRequestSpec)) fnBehindDescribeQuorumRequestCard

/-- THE TIED CARD OF 'laws.FnBehindShareGroupDescribeResponse'. -/
def fnBehindShareGroupDescribeResponseCard : Claim7 := { stood := { row := fnBehindShareGroupDescribeResponseRow, standIns := [], harness := (true, "7843e2e327881765293ecb2c7a7d5cd1c4cc285ad5e185d22ed35e564e813dfc"), looks := false }, kinds := [], alts := [], laidByText := true, laidKinds := [.sentinel], laidTests := true, laidLooks := .later }
def FnBehindShareGroupDescribeResponseCardSaid : Prop := Claim7.holds Tryz.pinned (.plain (OpenSpec.ofChange fnBehindShareGroupDescribeResponseSpec)) fnBehindShareGroupDescribeResponseCard

/-- THE SECOND FORM's CARD OF 'laws.FnBehindDescribeTransactionsRequest'. -/
def fnBehindDescribeTransactionsRequestUptoCard : Claim7 := { stood := { row := fnBehindDescribeTransactionsRequestUptoRow, standIns := [], harness := (true, "7843e2e327881765293ecb2c7a7d5cd1c4cc285ad5e185d22ed35e564e813dfc"), looks := false }, kinds := [], alts := [], laidByText := true, laidKinds := [.sentinel], laidTests := true, laidLooks := .later }
def FnBehindDescribeTransactionsRequestUptoCardSaid : Prop := Claim7.holds Tryz.pinned (.plain (OpenSpec.upto fnBehindDescribeTransactionsRequestSpec)) fnBehindDescribeTransactionsRequestUptoCard

/-- THE SECOND FORM's CARD OF 'laws.FnBehindDeleteShareGroupOffsetsResponse'. -/
def fnBehindDeleteShareGroupOffsetsResponseUptoCard : Claim7 := { stood := { row := fnBehindDeleteShareGroupOffsetsResponseUptoRow, standIns := [], harness := (true, "7843e2e327881765293ecb2c7a7d5cd1c4cc285ad5e185d22ed35e564e813dfc"), looks := false }, kinds := [], alts := [], laidByText := true, laidKinds := [.sentinel], laidTests := true, laidLooks := .later }
def FnBehindDeleteShareGroupOffsetsResponseUptoCardSaid : Prop := Claim7.holds Tryz.pinned (.plain (OpenSpec.upto fnBehindDeleteShareGroupOffsetsResponseSpec)) fnBehindDeleteShareGroupOffsetsResponseUptoCard

/-- THE SECOND FORM's CARD OF 'laws.FnBehindControlledShutdownResponse'. -/
def fnBehindControlledShutdownResponseUptoCard : Claim7 := { stood := { row := fnBehindControlledShutdownResponseUptoRow, standIns := [], harness := (true, "7843e2e327881765293ecb2c7a7d5cd1c4cc285ad5e185d22ed35e564e813dfc"), looks := false }, kinds := [], alts := [], laidByText := true, laidKinds := [.sentinel], laidTests := true, laidLooks := .later }
def FnBehindControlledShutdownResponseUptoCardSaid : Prop := Claim7.holds Tryz.pinned (.plain (OpenSpec.upto fnBehindControlledShutdownResponseSpec)) fnBehindControlledShutdownResponseUptoCard

/-- THE SECOND FORM's CARD OF 'laws.FnBehindDescribeUserSCRAMCredentialsResponse'. -/
def fnBehindDescribeUserSCRAMCredentialsResponseUptoCard : Claim7 := { stood := { row := fnBehindDescribeUserSCRAMCredentialsResponseUptoRow, standIns := [], harness := (true, "7843e2e327881765293ecb2c7a7d5cd1c4cc285ad5e185d22ed35e564e813dfc"), looks := false }, kinds := [], alts := [], laidByText := true, laidKinds := [.sentinel], laidTests := true, laidLooks := .later }
def FnBehindDescribeUserSCRAMCredentialsResponseUptoCardSaid : Prop := Claim7.holds Tryz.pinned (.plain (OpenSpec.upto fnBehindDescribeUserSCRAMCredentialsResponseSpec)) fnBehindDescribeUserSCRAMCredentialsResponseUptoCard

/-- THE SECOND FORM's CARD OF 'laws.FnBehindIncrementalAlterConfigsRequest'. -/
def fnBehindIncrementalAlterConfigsRequestUptoCard : Claim7 := { stood := { row := fnBehindIncrementalAlterConfigsRequestUptoRow, standIns := [], harness := (true, "7843e2e327881765293ecb2c7a7d5cd1c4cc285ad5e185d22ed35e564e813dfc"), looks := false }, kinds := [], alts := [], laidByText := true, laidKinds := [.sentinel], laidTests := true, laidLooks := .later }
def FnBehindIncrementalAlterConfigsRequestUptoCardSaid : Prop := Claim7.holds Tryz.pinned (.plain (OpenSpec.upto fnBehindIncrementalAlterConfigsRequestSpec)) fnBehindIncrementalAlterConfigsRequestUptoCard

/-- THE SECOND FORM's CARD OF 'laws.FnBehindAddPartitionsToTxnResponse'. -/
def fnBehindAddPartitionsToTxnResponseUptoCard : Claim7 := { stood := { row := fnBehindAddPartitionsToTxnResponseUptoRow, standIns := [], harness := (true, "7843e2e327881765293ecb2c7a7d5cd1c4cc285ad5e185d22ed35e564e813dfc"), looks := false }, kinds := [], alts := [], laidByText := true, laidKinds := [.sentinel], laidTests := true, laidLooks := .later }
def FnBehindAddPartitionsToTxnResponseUptoCardSaid : Prop := Claim7.holds Tryz.pinned (.plain (OpenSpec.upto fnBehindAddPartitionsToTxnResponseSpec)) fnBehindAddPartitionsToTxnResponseUptoCard

/-- THE SECOND FORM's CARD OF 'laws.FnBehindDeleteACLsResponse'. -/
def fnBehindDeleteACLsResponseUptoCard : Claim7 := { stood := { row := fnBehindDeleteACLsResponseUptoRow, standIns := [], harness := (true, "7843e2e327881765293ecb2c7a7d5cd1c4cc285ad5e185d22ed35e564e813dfc"), looks := false }, kinds := [], alts := [], laidByText := true, laidKinds := [.sentinel], laidTests := true, laidLooks := .later }
def FnBehindDeleteACLsResponseUptoCardSaid : Prop := Claim7.holds Tryz.pinned (.plain (OpenSpec.upto fnBehindDeleteACLsResponseSpec)) fnBehindDeleteACLsResponseUptoCard

/-- THE SECOND FORM's CARD OF 'laws.FnBehindDescribeShareGroupOffsetsResponse'. -/
def fnBehindDescribeShareGroupOffsetsResponseUptoCard : Claim7 := { stood := { row := fnBehindDescribeShareGroupOffsetsResponseUptoRow, standIns := [], harness := (true, "7843e2e327881765293ecb2c7a7d5cd1c4cc285ad5e185d22ed35e564e813dfc"), looks := false }, kinds := [], alts := [], laidByText := true, laidKinds := [.sentinel], laidTests := true, laidLooks := .later }
def FnBehindDescribeShareGroupOffsetsResponseUptoCardSaid : Prop := Claim7.holds Tryz.pinned (.plain (OpenSpec.upto fnBehindDescribeShareGroupOffsetsResponseSpec)) fnBehindDescribeShareGroupOffsetsResponseUptoCard

/-- THE SECOND FORM's CARD OF 'laws.FnBehindEndQuorumEpochRequest'. -/
def fnBehindEndQuorumEpochRequestUptoCard : Claim7 := { stood := { row := fnBehindEndQuorumEpochRequestUptoRow, standIns := [], harness := (true, "7843e2e327881765293ecb2c7a7d5cd1c4cc285ad5e185d22ed35e564e813dfc"), looks := false }, kinds := [], alts := [], laidByText := true, laidKinds := [.sentinel], laidTests := true, laidLooks := .later }
def FnBehindEndQuorumEpochRequestUptoCardSaid : Prop := Claim7.holds Tryz.pinned (.plain (OpenSpec.upto fnBehindEndQuorumEpochRequestSpec)) fnBehindEndQuorumEpochRequestUptoCard

/-- THE SECOND FORM's CARD OF 'laws.FnBehindDescribeQuorumRequest'. -/
def fnBehindDescribeQuorumRequestUptoCard : Claim7 := { stood := { row := fnBehindDescribeQuorumRequestUptoRow, standIns := [], harness := (true, "7843e2e327881765293ecb2c7a7d5cd1c4cc285ad5e185d22ed35e564e813dfc"), looks := false }, kinds := [], alts := [], laidByText := true, laidKinds := [.sentinel], laidTests := true, laidLooks := .later }
def FnBehindDescribeQuorumRequestUptoCardSaid : Prop := Claim7.holds Tryz.pinned (.plain (OpenSpec.upto fnBehindDescribeQuorumRequestSpec)) fnBehindDescribeQuorumRequestUptoCard

/-- THE SECOND FORM's CARD OF 'laws.FnBehindShareGroupDescribeResponse'. -/
def fnBehindShareGroupDescribeResponseUptoCard : Claim7 := { stood := { row := fnBehindShareGroupDescribeResponseUptoRow, standIns := [], harness := (true, "7843e2e327881765293ecb2c7a7d5cd1c4cc285ad5e185d22ed35e564e813dfc"), looks := false }, kinds := [], alts := [], laidByText := true, laidKinds := [.sentinel], laidTests := true, laidLooks := .later }
def FnBehindShareGroupDescribeResponseUptoCardSaid : Prop := Claim7.holds Tryz.pinned (.plain (OpenSpec.upto fnBehindShareGroupDescribeResponseSpec)) fnBehindShareGroupDescribeResponseUptoCard
end Rows
end Go.Proofs.YthjbggibpkgmpaaGreatDoor
