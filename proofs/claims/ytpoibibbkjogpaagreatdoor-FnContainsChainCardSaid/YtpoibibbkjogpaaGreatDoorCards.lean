/-
  DERIVED. GIVEN WITH THE SEED: THE CARDS: each row of YtpoibibbkjogpaaGreatDoorRows.lean that lists a variable, with what it lists TIED to the program's text (the seventh form; the later family's looks); each row that meets fmt, with fmt's text TOLD by the authors' own Lean function (tested against real Go, not proved from fmt's source: count such statements apart). THE CARD IS WHAT COUNTS. Prove the row's statement (the work); the ties are given (YtpoibibbkjogpaaGreatDoorTie.lean); close each card by the builder's one call (the guide's Derived/Test/ToyasCard.lean, 'card_holds'). Laid BY PROGRAM, IN A SANDBOX (cutbox-door.mjs). By AI agents, Wed Nov 11 2026. No macro, syntax, notation, axiom, sorry.
-/
import Derived.Test.YtpoibibbkjogpaaGreatDoorRows
import GoSem.ClaimSeven
namespace Go.Proofs.YtpoibibbkjogpaaGreatDoor
namespace Rows

/-- THE TIED CARD OF 'laws.FnContainsChain'. -/
def fnContainsChainCard : Claim7 := { stood := { row := fnContainsChainRow, standIns := [], harness := (true, "ae4ed630ee8a15b300601d4fd81c98ed99c72c1525f4670dec477d9ec9eff57a"), looks := true }, kinds := [], alts := [], laidByText := true, laidKinds := [.data, .data, .widerDeep, .widerDeep, .data, .data, .data, .data, .data, .data, .sentinel, .sentinel, .pinned, .pinned, .pinned], laidTests := true, laidLooks := .later }
def FnContainsChainCardSaid : Prop := Claim7.holds Tryz.pinned (.plain (OpenSpec.ofChange fnContainsChainSpec)) fnContainsChainCard

/-- THE TIED CARD OF 'laws.FnContainsRest'. -/
def fnContainsRestCard : Claim7 := { stood := { row := fnContainsRestRow, standIns := [], harness := (true, "ae4ed630ee8a15b300601d4fd81c98ed99c72c1525f4670dec477d9ec9eff57a"), looks := true }, kinds := [], alts := [], laidByText := true, laidKinds := [.data, .data, .widerDeep, .widerDeep, .data, .data, .data, .data, .data, .data, .sentinel, .sentinel, .pinned, .pinned, .pinned], laidTests := true, laidLooks := .later }
def FnContainsRestCardSaid : Prop := Claim7.holds Tryz.pinned (.plain (OpenSpec.ofChange fnContainsRestSpec)) fnContainsRestCard

/-- THE TIED CARD OF 'laws.FnDelThenSet'. -/
def fnDelThenSetCard : Claim7 := { stood := { row := fnDelThenSetRow, standIns := [], harness := (true, "ae4ed630ee8a15b300601d4fd81c98ed99c72c1525f4670dec477d9ec9eff57a"), looks := true }, kinds := [], alts := [], laidByText := true, laidKinds := [.data, .data, .widerDeep, .widerDeep, .data, .data, .data, .data, .data, .data, .sentinel, .sentinel, .pinned, .pinned, .pinned], laidTests := true, laidLooks := .later }
def FnDelThenSetCardSaid : Prop := Claim7.holds Tryz.pinned (.plain (OpenSpec.ofChange fnDelThenSetSpec)) fnDelThenSetCard

/-- THE SECOND FORM's CARD OF 'laws.FnContainsChain'. -/
def fnContainsChainUptoCard : Claim7 := { stood := { row := fnContainsChainUptoRow, standIns := [], harness := (true, "ae4ed630ee8a15b300601d4fd81c98ed99c72c1525f4670dec477d9ec9eff57a"), looks := true }, kinds := [], alts := [], laidByText := true, laidKinds := [.data, .data, .widerDeep, .widerDeep, .data, .data, .data, .data, .data, .data, .sentinel, .sentinel, .pinned, .pinned, .pinned], laidTests := true, laidLooks := .later }
def FnContainsChainUptoCardSaid : Prop := Claim7.holds Tryz.pinned (.plain (OpenSpec.upto fnContainsChainSpec)) fnContainsChainUptoCard

/-- THE SECOND FORM's CARD OF 'laws.FnContainsRest'. -/
def fnContainsRestUptoCard : Claim7 := { stood := { row := fnContainsRestUptoRow, standIns := [], harness := (true, "ae4ed630ee8a15b300601d4fd81c98ed99c72c1525f4670dec477d9ec9eff57a"), looks := true }, kinds := [], alts := [], laidByText := true, laidKinds := [.data, .data, .widerDeep, .widerDeep, .data, .data, .data, .data, .data, .data, .sentinel, .sentinel, .pinned, .pinned, .pinned], laidTests := true, laidLooks := .later }
def FnContainsRestUptoCardSaid : Prop := Claim7.holds Tryz.pinned (.plain (OpenSpec.upto fnContainsRestSpec)) fnContainsRestUptoCard

/-- THE SECOND FORM's CARD OF 'laws.FnDelThenSet'. -/
def fnDelThenSetUptoCard : Claim7 := { stood := { row := fnDelThenSetUptoRow, standIns := [], harness := (true, "ae4ed630ee8a15b300601d4fd81c98ed99c72c1525f4670dec477d9ec9eff57a"), looks := true }, kinds := [], alts := [], laidByText := true, laidKinds := [.data, .data, .widerDeep, .widerDeep, .data, .data, .data, .data, .data, .data, .sentinel, .sentinel, .pinned, .pinned, .pinned], laidTests := true, laidLooks := .later }
def FnDelThenSetUptoCardSaid : Prop := Claim7.holds Tryz.pinned (.plain (OpenSpec.upto fnDelThenSetSpec)) fnDelThenSetUptoCard
end Rows
end Go.Proofs.YtpoibibbkjogpaaGreatDoor
