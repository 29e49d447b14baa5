/-
  DERIVED. GIVEN WITH THE SEED: THE CARDS: each row of YtiphcojcdegnkaaGreatDoorRows.lean that lists a variable, with what it lists TIED to the program's text (the seventh form; the later family's looks); each row that meets fmt, with fmt's text TOLD by the authors' own Lean function (tested against real Go, not proved from fmt's source: count such statements apart). THE CARD IS WHAT COUNTS. Prove the row's statement (the work); the ties are given (YtiphcojcdegnkaaGreatDoorTie.lean); close each card by the builder's one call (the guide's Derived/Test/ToyasCard.lean, 'card_holds'). Laid BY PROGRAM, IN A SANDBOX (cutbox-door.mjs). By AI agents, Wed Nov 11 2026. No macro, syntax, notation, axiom, sorry.
-/
import Derived.Test.YtiphcojcdegnkaaGreatDoorRows
import GoSem.ClaimSeven
namespace Go.Proofs.YtiphcojcdegnkaaGreatDoor
namespace Rows

/-- THE TIED CARD OF 'laws.FnGetPath'. -/
def fnGetPathCard : Claim7 := { stood := { row := fnGetPathRow, standIns := [], harness := (true, "88f1ed9787af5a9fe8a1b574d36adf472cd1e7081131c554f6a1871867a7c06d"), looks := true }, kinds := [], alts := [], laidByText := true, laidKinds := [.data, .data, .widerDeep, .widerDeep, .data, .data, .data, .data, .data, .data, .sentinel, .sentinel, .pinned, .pinned, .pinned], laidTests := true, laidLooks := .later }
def FnGetPathCardSaid : Prop := Claim7.holds Tryz.pinned (.plain (OpenSpec.ofChange fnGetPathSpec)) fnGetPathCard

/-- THE TIED CARD OF 'laws.FnSetOld'. -/
def fnSetOldCard : Claim7 := { stood := { row := fnSetOldRow, standIns := [], harness := (true, "88f1ed9787af5a9fe8a1b574d36adf472cd1e7081131c554f6a1871867a7c06d"), looks := true }, kinds := [], alts := [], laidByText := true, laidKinds := [.data, .data, .widerDeep, .widerDeep, .data, .data, .data, .data, .data, .data, .sentinel, .sentinel, .pinned, .pinned, .pinned], laidTests := true, laidLooks := .later }
def FnSetOldCardSaid : Prop := Claim7.holds Tryz.pinned (.plain (OpenSpec.ofChange fnSetOldSpec)) fnSetOldCard

/-- THE SECOND FORM's CARD OF 'laws.FnGetPath'. -/
def fnGetPathUptoCard : Claim7 := { stood := { row := fnGetPathUptoRow, standIns := [], harness := (true, "88f1ed9787af5a9fe8a1b574d36adf472cd1e7081131c554f6a1871867a7c06d"), looks := true }, kinds := [], alts := [], laidByText := true, laidKinds := [.data, .data, .widerDeep, .widerDeep, .data, .data, .data, .data, .data, .data, .sentinel, .sentinel, .pinned, .pinned, .pinned], laidTests := true, laidLooks := .later }
def FnGetPathUptoCardSaid : Prop := Claim7.holds Tryz.pinned (.plain (OpenSpec.upto fnGetPathSpec)) fnGetPathUptoCard

/-- THE SECOND FORM's CARD OF 'laws.FnSetOld'. -/
def fnSetOldUptoCard : Claim7 := { stood := { row := fnSetOldUptoRow, standIns := [], harness := (true, "88f1ed9787af5a9fe8a1b574d36adf472cd1e7081131c554f6a1871867a7c06d"), looks := true }, kinds := [], alts := [], laidByText := true, laidKinds := [.data, .data, .widerDeep, .widerDeep, .data, .data, .data, .data, .data, .data, .sentinel, .sentinel, .pinned, .pinned, .pinned], laidTests := true, laidLooks := .later }
def FnSetOldUptoCardSaid : Prop := Claim7.holds Tryz.pinned (.plain (OpenSpec.upto fnSetOldSpec)) fnSetOldUptoCard
end Rows
end Go.Proofs.YtiphcojcdegnkaaGreatDoor
