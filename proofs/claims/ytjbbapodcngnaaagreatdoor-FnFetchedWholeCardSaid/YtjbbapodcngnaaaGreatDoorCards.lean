/-
  DERIVED. GIVEN WITH THE SEED: THE CARDS: each row of YtjbbapodcngnaaaGreatDoorRows.lean that lists a variable, with what it lists TIED to the program's text (the seventh form; the later family's looks); each row that meets fmt, with fmt's text TOLD by the authors' own Lean function (tested against real Go, not proved from fmt's source: count such statements apart). THE CARD IS WHAT COUNTS. Prove the row's statement (the work); the ties are given (YtjbbapodcngnaaaGreatDoorTie.lean); close each card by the builder's one call (the guide's Derived/Test/ToyasCard.lean, 'card_holds'). Laid BY PROGRAM, IN A SANDBOX (cutbox-door.mjs). By AI agents, Wed Nov 11 2026. No macro, syntax, notation, axiom, sorry.
-/
import Derived.Test.YtjbbapodcngnaaaGreatDoorRows
import GoSem.ClaimSeven
namespace Go.Proofs.YtjbbapodcngnaaaGreatDoor
namespace Rows

/-- THE TIED CARD OF 'laws.FnFetched'. -/
def fnFetchedCard : Claim7 := { stood := { row := fnFetchedRow, standIns := [], harness := (true, "0858008cde3665c0210380eb8451e94413a57f950589c53583c333d938a8d6a8"), looks := true }, kinds := [], alts := [], laidByText := true, laidKinds := [.data, .sentinel, .sentinel, .sentinel, .sentinel, .sentinel, .sentinel, .listed, .data, .sentinel, .sentinel, .sentinel, .sentinel, .sentinel, .sentinel, .pinned, .pinned], laidTests := true, laidLooks := .later }
def FnFetchedCardSaid : Prop := Claim7.holds Tryz.pinned (.plain (OpenSpec.ofChange fnFetchedSpec)) fnFetchedCard

/-- THE TIED CARD OF 'laws.FnFetchedWhole'. -/
def fnFetchedWholeCard : Claim7 := { stood := { row := fnFetchedWholeRow, standIns := [], harness := (true, "0858008cde3665c0210380eb8451e94413a57f950589c53583c333d938a8d6a8"), looks := true }, kinds := [], alts := [], laidByText := true, laidKinds := [.data, .sentinel, .sentinel, .sentinel, .sentinel, .sentinel, .sentinel, .listed, .data, .sentinel, .sentinel, .sentinel, .sentinel, .sentinel, .sentinel, .pinned, .pinned], laidTests := true, laidLooks := .later }
def FnFetchedWholeCardSaid : Prop := Claim7.holds Tryz.pinned (.plain (OpenSpec.ofChange fnFetchedWholeSpec)) fnFetchedWholeCard

/-- THE SECOND FORM's CARD OF 'laws.FnFetched'. -/
def fnFetchedUptoCard : Claim7 := { stood := { row := fnFetchedUptoRow, standIns := [], harness := (true, "0858008cde3665c0210380eb8451e94413a57f950589c53583c333d938a8d6a8"), looks := true }, kinds := [], alts := [], laidByText := true, laidKinds := [.data, .sentinel, .sentinel, .sentinel, .sentinel, .sentinel, .sentinel, .listed, .data, .sentinel, .sentinel, .sentinel, .sentinel, .sentinel, .sentinel, .pinned, .pinned], laidTests := true, laidLooks := .later }
def FnFetchedUptoCardSaid : Prop := Claim7.holds Tryz.pinned (.plain (OpenSpec.upto fnFetchedSpec)) fnFetchedUptoCard

/-- THE SECOND FORM's CARD OF 'laws.FnFetchedWhole'. -/
def fnFetchedWholeUptoCard : Claim7 := { stood := { row := fnFetchedWholeUptoRow, standIns := [], harness := (true, "0858008cde3665c0210380eb8451e94413a57f950589c53583c333d938a8d6a8"), looks := true }, kinds := [], alts := [], laidByText := true, laidKinds := [.data, .sentinel, .sentinel, .sentinel, .sentinel, .sentinel, .sentinel, .listed, .data, .sentinel, .sentinel, .sentinel, .sentinel, .sentinel, .sentinel, .pinned, .pinned], laidTests := true, laidLooks := .later }
def FnFetchedWholeUptoCardSaid : Prop := Claim7.holds Tryz.pinned (.plain (OpenSpec.upto fnFetchedWholeSpec)) fnFetchedWholeUptoCard
end Rows
end Go.Proofs.YtjbbapodcngnaaaGreatDoor
