/-
  DERIVED. GIVEN WITH THE SEED: THE CARDS: each row of YtgmbjdoifkjdhaaGreatDoorRows.lean that lists a variable, with what it lists TIED to the program's text (the seventh form; the later family's looks); each row that meets fmt, with fmt's text TOLD by the authors' own Lean function (tested against real Go, not proved from fmt's source: count such statements apart). THE CARD IS WHAT COUNTS. Prove the row's statement (the work); the ties are given (YtgmbjdoifkjdhaaGreatDoorTie.lean); close each card by the builder's one call (the guide's Derived/Test/ToyasCard.lean, 'card_holds'). Laid BY PROGRAM, IN A SANDBOX (cutbox-door.mjs). By AI agents, Wed Nov 11 2026. No macro, syntax, notation, axiom, sorry.
-/
import Derived.Test.YtgmbjdoifkjdhaaGreatDoorRows
import GoSem.ClaimSeven
namespace Go.Proofs.YtgmbjdoifkjdhaaGreatDoor
namespace Rows

/-- THE TIED CARD OF 'laws.FnReadAgain'. -/
def fnReadAgainCard : Claim7 := { stood := { row := fnReadAgainRow, standIns := [], harness := (true, "626fedbd967e1072df0d975af85ba25a5a2071d39da92dd7bbcab18af2ab6f11"), looks := true }, kinds := [], alts := [], laidByText := true, laidKinds := [.data, .data, .widerDeep, .widerDeep, .data, .data, .data, .data, .data, .data, .sentinel, .sentinel, .data, .data, .sentinel, .sentinel, .sentinel, .pinned, .pinned, .pinned, .pinned], laidTests := true, laidLooks := .later }
def FnReadAgainCardSaid : Prop := Claim7.holds Tryz.pinned (.plain (OpenSpec.ofChange fnReadAgainSpec)) fnReadAgainCard

/-- THE SECOND FORM's CARD OF 'laws.FnReadAgain'. -/
def fnReadAgainUptoCard : Claim7 := { stood := { row := fnReadAgainUptoRow, standIns := [], harness := (true, "626fedbd967e1072df0d975af85ba25a5a2071d39da92dd7bbcab18af2ab6f11"), looks := true }, kinds := [], alts := [], laidByText := true, laidKinds := [.data, .data, .widerDeep, .widerDeep, .data, .data, .data, .data, .data, .data, .sentinel, .sentinel, .data, .data, .sentinel, .sentinel, .sentinel, .pinned, .pinned, .pinned, .pinned], laidTests := true, laidLooks := .later }
def FnReadAgainUptoCardSaid : Prop := Claim7.holds Tryz.pinned (.plain (OpenSpec.upto fnReadAgainSpec)) fnReadAgainUptoCard
end Rows
end Go.Proofs.YtgmbjdoifkjdhaaGreatDoor
