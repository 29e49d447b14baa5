/-
  DERIVED. GIVEN WITH THE SEED: THE CARDS: each row of YtfgjaoejcbldoaaGreatDoorRows.lean that lists a variable, with what it lists TIED to the program's text (the seventh form; the later family's looks); each row that meets fmt, with fmt's text TOLD by the authors' own Lean function (tested against real Go, not proved from fmt's source: count such statements apart). THE CARD IS WHAT COUNTS. Prove the row's statement (the work); the ties are given (YtfgjaoejcbldoaaGreatDoorTie.lean); close each card by the builder's one call (the guide's Derived/Test/ToyasCard.lean, 'card_holds'). Laid BY PROGRAM, IN A SANDBOX (cutbox-door.mjs). By AI agents, Wed Nov 11 2026. No macro, syntax, notation, axiom, sorry.
-/
import Derived.Test.YtfgjaoejcbldoaaGreatDoorRows
import GoSem.ClaimSeven
namespace Go.Proofs.YtfgjaoejcbldoaaGreatDoor
namespace Rows

/-- THE TIED CARD OF 'laws.FnBigBack'. -/
def fnBigBackCard : Claim7 := { stood := { row := fnBigBackRow, standIns := [], harness := (true, "1336285b90ee3a577a8082facb8a6cbf0a11ef34599943bfe7522a7825069025"), looks := true }, kinds := [], alts := [], laidByText := true, laidKinds := [.data, .data, .widerDeep, .widerDeep, .data, .data, .data, .data, .data, .data, .sentinel, .sentinel, .pinned, .pinned, .pinned], laidTests := true, laidLooks := .later }
def FnBigBackCardSaid : Prop := Claim7.holds Tryz.pinned (.plain (OpenSpec.ofChange fnBigBackSpec)) fnBigBackCard

/-- THE SECOND FORM's CARD OF 'laws.FnBigBack'. -/
def fnBigBackUptoCard : Claim7 := { stood := { row := fnBigBackUptoRow, standIns := [], harness := (true, "1336285b90ee3a577a8082facb8a6cbf0a11ef34599943bfe7522a7825069025"), looks := true }, kinds := [], alts := [], laidByText := true, laidKinds := [.data, .data, .widerDeep, .widerDeep, .data, .data, .data, .data, .data, .data, .sentinel, .sentinel, .pinned, .pinned, .pinned], laidTests := true, laidLooks := .later }
def FnBigBackUptoCardSaid : Prop := Claim7.holds Tryz.pinned (.plain (OpenSpec.upto fnBigBackSpec)) fnBigBackUptoCard
end Rows
end Go.Proofs.YtfgjaoejcbldoaaGreatDoor
