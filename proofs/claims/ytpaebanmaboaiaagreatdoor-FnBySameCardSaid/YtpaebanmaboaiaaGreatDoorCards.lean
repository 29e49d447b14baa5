/-
  DERIVED. GIVEN WITH THE SEED: THE CARDS: each row of YtpaebanmaboaiaaGreatDoorRows.lean that lists a variable, with what it lists TIED to the program's text (the seventh form; the later family's looks); each row that meets fmt, with fmt's text TOLD by the authors' own Lean function (tested against real Go, not proved from fmt's source: count such statements apart). THE CARD IS WHAT COUNTS. Prove the row's statement (the work); the ties are given (YtpaebanmaboaiaaGreatDoorTie.lean); close each card by the builder's one call (the guide's Derived/Test/ToyasCard.lean, 'card_holds'). Laid BY PROGRAM, IN A SANDBOX (cutbox-door.mjs). By AI agents, Wed Nov 11 2026. No macro, syntax, notation, axiom, sorry.
-/
import Derived.Test.YtpaebanmaboaiaaGreatDoorRows
import GoSem.ClaimSeven
namespace Go.Proofs.YtpaebanmaboaiaaGreatDoor
namespace Rows

/-- THE TIED CARD OF 'laws.FnBySame'. -/
def fnBySameCard : Claim7 := { stood := { row := fnBySameRow, standIns := [], harness := (true, "c12f81ad2f4978391279342a805179440b5636f20901f9df55210da3bfc643d4"), looks := true }, kinds := [], alts := [], laidByText := true, laidKinds := [.data, .data, .widerDeep, .widerDeep, .data, .data, .data, .data, .data, .data, .sentinel, .sentinel, .pinned, .pinned, .pinned], laidTests := true, laidLooks := .later }
def FnBySameCardSaid : Prop := Claim7.holds Tryz.pinned (.plain (OpenSpec.ofChange fnBySameSpec)) fnBySameCard

/-- THE SECOND FORM's CARD OF 'laws.FnBySame'. -/
def fnBySameUptoCard : Claim7 := { stood := { row := fnBySameUptoRow, standIns := [], harness := (true, "c12f81ad2f4978391279342a805179440b5636f20901f9df55210da3bfc643d4"), looks := true }, kinds := [], alts := [], laidByText := true, laidKinds := [.data, .data, .widerDeep, .widerDeep, .data, .data, .data, .data, .data, .data, .sentinel, .sentinel, .pinned, .pinned, .pinned], laidTests := true, laidLooks := .later }
def FnBySameUptoCardSaid : Prop := Claim7.holds Tryz.pinned (.plain (OpenSpec.upto fnBySameSpec)) fnBySameUptoCard
end Rows
end Go.Proofs.YtpaebanmaboaiaaGreatDoor
