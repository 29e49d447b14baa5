/-
  DERIVED. GIVEN WITH THE SEED: THE CARDS: each row of YtjlkoekfcdpnaaaGreatDoorRows.lean that lists a variable, with what it lists TIED to the program's text (the seventh form; the later family's looks); each row that meets fmt, with fmt's text TOLD by the authors' own Lean function (tested against real Go, not proved from fmt's source: count such statements apart). THE CARD IS WHAT COUNTS. Prove the row's statement (the work); the ties are given (YtjlkoekfcdpnaaaGreatDoorTie.lean); close each card by the builder's one call (the guide's Derived/Test/ToyasCard.lean, 'card_holds'). Laid BY PROGRAM, IN A SANDBOX (cutbox-door.mjs). By AI agents, Wed Nov 11 2026. No macro, syntax, notation, axiom, sorry.
-/
import Derived.Test.YtjlkoekfcdpnaaaGreatDoorRows
import GoSem.ClaimSeven
namespace Go.Proofs.YtjlkoekfcdpnaaaGreatDoor
namespace Rows

/-- THE TIED CARD OF 'laws.FnDelThenSet'. -/
def fnDelThenSetCard : Claim7 := { stood := { row := fnDelThenSetRow, standIns := [], harness := (true, "bf946ba2821f404743a8fd79cda77c8b3ceb5bac9dd7fcc5793563702f944922"), looks := true }, kinds := [], alts := [], laidByText := true, laidKinds := [.data, .data, .widerDeep, .widerDeep, .data, .data, .data, .data, .data, .data, .sentinel, .sentinel, .pinned, .pinned, .pinned], laidTests := true, laidLooks := .later }
def FnDelThenSetCardSaid : Prop := Claim7.holds Tryz.pinned (.plain (OpenSpec.ofChange fnDelThenSetSpec)) fnDelThenSetCard

/-- THE SECOND FORM's CARD OF 'laws.FnDelThenSet'. -/
def fnDelThenSetUptoCard : Claim7 := { stood := { row := fnDelThenSetUptoRow, standIns := [], harness := (true, "bf946ba2821f404743a8fd79cda77c8b3ceb5bac9dd7fcc5793563702f944922"), looks := true }, kinds := [], alts := [], laidByText := true, laidKinds := [.data, .data, .widerDeep, .widerDeep, .data, .data, .data, .data, .data, .data, .sentinel, .sentinel, .pinned, .pinned, .pinned], laidTests := true, laidLooks := .later }
def FnDelThenSetUptoCardSaid : Prop := Claim7.holds Tryz.pinned (.plain (OpenSpec.upto fnDelThenSetSpec)) fnDelThenSetUptoCard
end Rows
end Go.Proofs.YtjlkoekfcdpnaaaGreatDoor
