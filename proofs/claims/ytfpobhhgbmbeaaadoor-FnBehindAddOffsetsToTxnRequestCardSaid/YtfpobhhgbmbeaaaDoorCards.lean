/-
  DERIVED. GIVEN WITH THE SEED: THE CARDS: each row of YtfpobhhgbmbeaaaDoorRows.lean that lists a variable, with what it lists TIED to the program's text (the seventh form; the later family's looks); each row that meets fmt, with fmt's text TOLD by the authors' own Lean function (tested against real Go, not proved from fmt's source: count such statements apart). THE CARD IS WHAT COUNTS. Prove the row's statement (the work); the ties are given (YtfpobhhgbmbeaaaDoorTie.lean); close each card by the builder's one call (the guide's Derived/Test/ToyasCard.lean, 'card_holds'). Laid BY PROGRAM, IN A SANDBOX (cutbox-door.mjs). By AI agents, Wed Nov 11 2026. No macro, syntax, notation, axiom, sorry.
-/
import Derived.Test.YtfpobhhgbmbeaaaDoorRows
import GoSem.ClaimSeven
namespace Go.Proofs.YtfpobhhgbmbeaaaDoor
namespace Rows

/-- THE TIED CARD OF 'laws.FnBehindSASLHandshakeResponse'. -/
def fnBehindSASLHandshakeResponseCard : Claim7 := { stood := { row := fnBehindSASLHandshakeResponseRow, standIns := [], harness := (true, "ec0becf0ac43e2ffa85fec231be22cea059831a0d100a499d6b2a4a11010c2a7"), looks := false }, kinds := [], alts := [], laidByText := true, laidKinds := [.sentinel], laidTests := true, laidLooks := .later }
def FnBehindSASLHandshakeResponseCardSaid : Prop := Claim7.holds Tryd.pinned (.plain (OpenSpec.ofChange fnBehindSASLHandshakeResponseSpec)) fnBehindSASLHandshakeResponseCard

/-- THE TIED CARD OF 'laws.FnBehindDescribeClusterRequest'. -/
def fnBehindDescribeClusterRequestCard : Claim7 := { stood := { row := fnBehindDescribeClusterRequestRow, standIns := [], harness := (true, "ec0becf0ac43e2ffa85fec231be22cea059831a0d100a499d6b2a4a11010c2a7"), looks := false }, kinds := [], alts := [], laidByText := true, laidKinds := [.sentinel], laidTests := true, laidLooks := .later }
def FnBehindDescribeClusterRequestCardSaid : Prop := Claim7.holds Tryd.pinned (.plain (OpenSpec.ofChange fnBehindDescribeClusterRequestSpec)) fnBehindDescribeClusterRequestCard

/-- THE TIED CARD OF 'laws.FnBehindAllocateProducerIDsRequest'. -/
def fnBehindAllocateProducerIDsRequestCard : Claim7 := { stood := { row := fnBehindAllocateProducerIDsRequestRow, standIns := [], harness := (true, "ec0becf0ac43e2ffa85fec231be22cea059831a0d100a499d6b2a4a11010c2a7"), looks := false }, kinds := [], alts := [], laidByText := true, laidKinds := [.sentinel], laidTests := true, laidLooks := .later }
def FnBehindAllocateProducerIDsRequestCardSaid : Prop := Claim7.holds Tryd.pinned (.plain (OpenSpec.ofChange fnBehindAllocateProducerIDsRequestSpec)) fnBehindAllocateProducerIDsRequestCard

/-- THE TIED CARD OF 'laws.FnBehindSASLAuthenticateRequest'. -/
def fnBehindSASLAuthenticateRequestCard : Claim7 := { stood := { row := fnBehindSASLAuthenticateRequestRow, standIns := [], harness := (true, "ec0becf0ac43e2ffa85fec231be22cea059831a0d100a499d6b2a4a11010c2a7"), looks := false }, kinds := [], alts := [], laidByText := true, laidKinds := [.sentinel], laidTests := true, laidLooks := .later }
def FnBehindSASLAuthenticateRequestCardSaid : Prop := Claim7.holds Tryd.pinned (.plain (OpenSpec.ofChange fnBehindSASLAuthenticateRequestSpec)) fnBehindSASLAuthenticateRequestCard

/-- THE TIED CARD OF 'laws.FnBehindExpireDelegationTokenRequest'. -/
def fnBehindExpireDelegationTokenRequestCard : Claim7 := { stood := { row := fnBehindExpireDelegationTokenRequestRow, standIns := [], harness := (true, "ec0becf0ac43e2ffa85fec231be22cea059831a0d100a499d6b2a4a11010c2a7"), looks := false }, kinds := [], alts := [], laidByText := true, laidKinds := [.sentinel], laidTests := true, laidLooks := .later }
def FnBehindExpireDelegationTokenRequestCardSaid : Prop := Claim7.holds Tryd.pinned (.plain (OpenSpec.ofChange fnBehindExpireDelegationTokenRequestSpec)) fnBehindExpireDelegationTokenRequestCard

/-- THE TIED CARD OF 'laws.FnBehindEndTxnResponse'. -/
def fnBehindEndTxnResponseCard : Claim7 := { stood := { row := fnBehindEndTxnResponseRow, standIns := [], harness := (true, "ec0becf0ac43e2ffa85fec231be22cea059831a0d100a499d6b2a4a11010c2a7"), looks := false }, kinds := [], alts := [], laidByText := true, laidKinds := [.sentinel], laidTests := true, laidLooks := .later }
def FnBehindEndTxnResponseCardSaid : Prop := Claim7.holds Tryd.pinned (.plain (OpenSpec.ofChange fnBehindEndTxnResponseSpec)) fnBehindEndTxnResponseCard

/-- THE TIED CARD OF 'laws.FnBehindAddOffsetsToTxnRequest'. -/
def fnBehindAddOffsetsToTxnRequestCard : Claim7 := { stood := { row := fnBehindAddOffsetsToTxnRequestRow, standIns := [], harness := (true, "ec0becf0ac43e2ffa85fec231be22cea059831a0d100a499d6b2a4a11010c2a7"), looks := false }, kinds := [], alts := [], laidByText := true, laidKinds := [.sentinel], laidTests := true, laidLooks := .later }
def FnBehindAddOffsetsToTxnRequestCardSaid : Prop := Claim7.holds Tryd.pinned (.plain (OpenSpec.ofChange fnBehindAddOffsetsToTxnRequestSpec)) fnBehindAddOffsetsToTxnRequestCard

/-- THE SECOND FORM's CARD OF 'laws.FnBehindSASLHandshakeResponse'. -/
def fnBehindSASLHandshakeResponseUptoCard : Claim7 := { stood := { row := fnBehindSASLHandshakeResponseUptoRow, standIns := [], harness := (true, "ec0becf0ac43e2ffa85fec231be22cea059831a0d100a499d6b2a4a11010c2a7"), looks := false }, kinds := [], alts := [], laidByText := true, laidKinds := [.sentinel], laidTests := true, laidLooks := .later }
def FnBehindSASLHandshakeResponseUptoCardSaid : Prop := Claim7.holds Tryd.pinned (.plain (OpenSpec.upto fnBehindSASLHandshakeResponseSpec)) fnBehindSASLHandshakeResponseUptoCard

/-- THE SECOND FORM's CARD OF 'laws.FnBehindDescribeClusterRequest'. -/
def fnBehindDescribeClusterRequestUptoCard : Claim7 := { stood := { row := fnBehindDescribeClusterRequestUptoRow, standIns := [], harness := (true, "ec0becf0ac43e2ffa85fec231be22cea059831a0d100a499d6b2a4a11010c2a7"), looks := false }, kinds := [], alts := [], laidByText := true, laidKinds := [.sentinel], laidTests := true, laidLooks := .later }
def FnBehindDescribeClusterRequestUptoCardSaid : Prop := Claim7.holds Tryd.pinned (.plain (OpenSpec.upto fnBehindDescribeClusterRequestSpec)) fnBehindDescribeClusterRequestUptoCard

/-- THE SECOND FORM's CARD OF 'laws.FnBehindAllocateProducerIDsRequest'. -/
def fnBehindAllocateProducerIDsRequestUptoCard : Claim7 := { stood := { row := fnBehindAllocateProducerIDsRequestUptoRow, standIns := [], harness := (true, "ec0becf0ac43e2ffa85fec231be22cea059831a0d100a499d6b2a4a11010c2a7"), looks := false }, kinds := [], alts := [], laidByText := true, laidKinds := [.sentinel], laidTests := true, laidLooks := .later }
def FnBehindAllocateProducerIDsRequestUptoCardSaid : Prop := Claim7.holds Tryd.pinned (.plain (OpenSpec.upto fnBehindAllocateProducerIDsRequestSpec)) fnBehindAllocateProducerIDsRequestUptoCard

/-- THE SECOND FORM's CARD OF 'laws.FnBehindSASLAuthenticateRequest'. -/
def fnBehindSASLAuthenticateRequestUptoCard : Claim7 := { stood := { row := fnBehindSASLAuthenticateRequestUptoRow, standIns := [], harness := (true, "ec0becf0ac43e2ffa85fec231be22cea059831a0d100a499d6b2a4a11010c2a7"), looks := false }, kinds := [], alts := [], laidByText := true, laidKinds := [.sentinel], laidTests := true, laidLooks := .later }
def FnBehindSASLAuthenticateRequestUptoCardSaid : Prop := Claim7.holds Tryd.pinned (.plain (OpenSpec.upto fnBehindSASLAuthenticateRequestSpec)) fnBehindSASLAuthenticateRequestUptoCard

/-- THE SECOND FORM's CARD OF 'laws.FnBehindExpireDelegationTokenRequest'. -/
def fnBehindExpireDelegationTokenRequestUptoCard : Claim7 := { stood := { row := fnBehindExpireDelegationTokenRequestUptoRow, standIns := [], harness := (true, "ec0becf0ac43e2ffa85fec231be22cea059831a0d100a499d6b2a4a11010c2a7"), looks := false }, kinds := [], alts := [], laidByText := true, laidKinds := [.sentinel], laidTests := true, laidLooks := .later }
def FnBehindExpireDelegationTokenRequestUptoCardSaid : Prop := Claim7.holds Tryd.pinned (.plain (OpenSpec.upto fnBehindExpireDelegationTokenRequestSpec)) fnBehindExpireDelegationTokenRequestUptoCard

/-- THE SECOND FORM's CARD OF 'laws.FnBehindEndTxnResponse'. -/
def fnBehindEndTxnResponseUptoCard : Claim7 := { stood := { row := fnBehindEndTxnResponseUptoRow, standIns := [], harness := (true, "ec0becf0ac43e2ffa85fec231be22cea059831a0d100a499d6b2a4a11010c2a7"), looks := false }, kinds := [], alts := [], laidByText := true, laidKinds := [.sentinel], laidTests := true, laidLooks := .later }
def FnBehindEndTxnResponseUptoCardSaid : Prop := Claim7.holds Tryd.pinned (.plain (OpenSpec.upto fnBehindEndTxnResponseSpec)) fnBehindEndTxnResponseUptoCard

/-- THE SECOND FORM's CARD OF 'laws.FnBehindAddOffsetsToTxnRequest'. -/
def fnBehindAddOffsetsToTxnRequestUptoCard : Claim7 := { stood := { row := fnBehindAddOffsetsToTxnRequestUptoRow, standIns := [], harness := (true, "ec0becf0ac43e2ffa85fec231be22cea059831a0d100a499d6b2a4a11010c2a7"), looks := false }, kinds := [], alts := [], laidByText := true, laidKinds := [.sentinel], laidTests := true, laidLooks := .later }
def FnBehindAddOffsetsToTxnRequestUptoCardSaid : Prop := Claim7.holds Tryd.pinned (.plain (OpenSpec.upto fnBehindAddOffsetsToTxnRequestSpec)) fnBehindAddOffsetsToTxnRequestUptoCard
end Rows
end Go.Proofs.YtfpobhhgbmbeaaaDoor
