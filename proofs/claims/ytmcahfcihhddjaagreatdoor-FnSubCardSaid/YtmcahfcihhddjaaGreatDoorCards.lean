/-
  DERIVED. GIVEN WITH THE SEED: THE CARDS: each row of YtmcahfcihhddjaaGreatDoorRows.lean that lists a variable, with what it lists TIED to the program's text (the seventh form; the later family's looks); each row that meets fmt, with fmt's text TOLD by the authors' own Lean function (tested against real Go, not proved from fmt's source: count such statements apart). THE CARD IS WHAT COUNTS. Prove the row's statement (the work); the ties are given (YtmcahfcihhddjaaGreatDoorTie.lean); close each card by the builder's one call (the guide's Derived/Test/ToyasCard.lean, 'card_holds'). Laid BY PROGRAM, IN A SANDBOX (cutbox-door.mjs). By AI agents, Wed Nov 11 2026. No macro, syntax, notation, axiom, sorry.
-/
import Derived.Test.YtmcahfcihhddjaaGreatDoorRows
import GoSem.ClaimSeven
namespace Go.Proofs.YtmcahfcihhddjaaGreatDoor
namespace Rows

/-- THE TIED CARD OF 'laws.FnMod'. -/
def fnModCard : Claim7 := { stood := { row := fnModRow, standIns := [], harness := (true, "105e0482214b1c4ffd49785d3bff2194d050e159b378db63125b2dafdb3f49a7"), looks := true }, kinds := [], alts := [], laidByText := true, laidKinds := [.data, .data, .widerDeep, .widerDeep, .data, .data, .data, .data, .data, .data, .sentinel, .sentinel, .pinned, .pinned, .pinned], laidTests := true, laidLooks := .later }
def FnModCardSaid : Prop := Claim7.holds Tryz.pinned (.plain (OpenSpec.ofChange fnModSpec)) fnModCard

/-- THE TIED CARD OF 'laws.FnSub'. -/
def fnSubCard : Claim7 := { stood := { row := fnSubRow, standIns := [], harness := (true, "105e0482214b1c4ffd49785d3bff2194d050e159b378db63125b2dafdb3f49a7"), looks := true }, kinds := [], alts := [], laidByText := true, laidKinds := [.data, .data, .widerDeep, .widerDeep, .data, .data, .data, .data, .data, .data, .sentinel, .sentinel, .pinned, .pinned, .pinned], laidTests := true, laidLooks := .later }
def FnSubCardSaid : Prop := Claim7.holds Tryz.pinned (.plain (OpenSpec.ofChange fnSubSpec)) fnSubCard

/-- THE SECOND FORM's CARD OF 'laws.FnMod'. -/
def fnModUptoCard : Claim7 := { stood := { row := fnModUptoRow, standIns := [], harness := (true, "105e0482214b1c4ffd49785d3bff2194d050e159b378db63125b2dafdb3f49a7"), looks := true }, kinds := [], alts := [], laidByText := true, laidKinds := [.data, .data, .widerDeep, .widerDeep, .data, .data, .data, .data, .data, .data, .sentinel, .sentinel, .pinned, .pinned, .pinned], laidTests := true, laidLooks := .later }
def FnModUptoCardSaid : Prop := Claim7.holds Tryz.pinned (.plain (OpenSpec.upto fnModSpec)) fnModUptoCard

/-- THE SECOND FORM's CARD OF 'laws.FnSub'. -/
def fnSubUptoCard : Claim7 := { stood := { row := fnSubUptoRow, standIns := [], harness := (true, "105e0482214b1c4ffd49785d3bff2194d050e159b378db63125b2dafdb3f49a7"), looks := true }, kinds := [], alts := [], laidByText := true, laidKinds := [.data, .data, .widerDeep, .widerDeep, .data, .data, .data, .data, .data, .data, .sentinel, .sentinel, .pinned, .pinned, .pinned], laidTests := true, laidLooks := .later }
def FnSubUptoCardSaid : Prop := Claim7.holds Tryz.pinned (.plain (OpenSpec.upto fnSubSpec)) fnSubUptoCard
end Rows
end Go.Proofs.YtmcahfcihhddjaaGreatDoor
