/-
  DERIVED. GIVEN WITH THE SEED: THE CARDS: each row of YtkgihecaappglaaGreatDoorRows.lean that lists a variable, with what it lists TIED to the program's text (the seventh form; the later family's looks); each row that meets fmt, with fmt's text TOLD by the authors' own Lean function (tested against real Go, not proved from fmt's source: count such statements apart). THE CARD IS WHAT COUNTS. Prove the row's statement (the work); the ties are given (YtkgihecaappglaaGreatDoorTie.lean); close each card by the builder's one call (the guide's Derived/Test/ToyasCard.lean, 'card_holds'). Laid BY PROGRAM, IN A SANDBOX (cutbox-door.mjs). By AI agents, Wed Nov 11 2026. No macro, syntax, notation, axiom, sorry.
-/
import Derived.Test.YtkgihecaappglaaGreatDoorRows
import GoSem.ClaimSeven
namespace Go.Proofs.YtkgihecaappglaaGreatDoor
namespace Rows

/-- THE TIED CARD OF 'laws.FnUnsafeFetchResponse'. -/
def fnUnsafeFetchResponseCard : Claim7 := { stood := { row := fnUnsafeFetchResponseRow, standIns := [], harness := (true, "bcb94881c3157bbcd13154ca75216933b8ab2f635b44f9e7eb6a9976cff8a91c"), looks := false }, kinds := [], alts := [], laidByText := true, laidKinds := [.sentinel], laidTests := true, laidLooks := .later }
def FnUnsafeFetchResponseCardSaid : Prop := Claim7.holds Tryz.pinned (.plain (OpenSpec.ofChange fnUnsafeFetchResponseSpec)) fnUnsafeFetchResponseCard

/-- THE SECOND FORM's CARD OF 'laws.FnUnsafeFetchResponse'. -/
def fnUnsafeFetchResponseUptoCard : Claim7 := { stood := { row := fnUnsafeFetchResponseUptoRow, standIns := [], harness := (true, "bcb94881c3157bbcd13154ca75216933b8ab2f635b44f9e7eb6a9976cff8a91c"), looks := false }, kinds := [], alts := [], laidByText := true, laidKinds := [.sentinel], laidTests := true, laidLooks := .later }
def FnUnsafeFetchResponseUptoCardSaid : Prop := Claim7.holds Tryz.pinned (.plain (OpenSpec.upto fnUnsafeFetchResponseSpec)) fnUnsafeFetchResponseUptoCard
end Rows
end Go.Proofs.YtkgihecaappglaaGreatDoor
