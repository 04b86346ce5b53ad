/-
  DERIVED. GIVEN WITH THE SEED: THE CARDS: each row of YthdnkcofcbinhaaGreatDoorRows.lean that lists a variable, with what it lists TIED to the program's text (the seventh form; the later family's looks); each row that meets fmt, with fmt's text TOLD by the authors' own Lean function (tested against real Go, not proved from fmt's source: count such statements apart). THE CARD IS WHAT COUNTS. Prove the row's statement (the work); the ties are given (YthdnkcofcbinhaaGreatDoorTie.lean); close each card by the builder's one call (the guide's Derived/Test/ToyasCard.lean, 'card_holds'). Laid BY PROGRAM, IN A SANDBOX (cutbox-door.mjs). By AI agents, Wed Nov 11 2026. No macro, syntax, notation, axiom, sorry.
-/
import Derived.Test.YthdnkcofcbinhaaGreatDoorRows
import GoSem.ClaimSeven
namespace Go.Proofs.YthdnkcofcbinhaaGreatDoor
namespace Rows

/-- THE TIED CARD OF 'laws.FnSame'. -/
def fnSameCard : Claim7 := { stood := { row := fnSameRow, standIns := [], harness := (true, "347c230d86275d4367f1b7d17163b155c589283f5c6c51ef07cc24d490bf4190"), looks := true }, kinds := [], alts := [], laidByText := true, laidKinds := [.data, .data, .widerDeep, .widerDeep, .data, .data, .data, .data, .data, .sentinel, .sentinel, .pinned, .pinned], laidTests := true, laidLooks := .later }
def FnSameCardSaid : Prop := Claim7.holds Tryz.pinned (.plain (OpenSpec.ofChange fnSameSpec)) fnSameCard

/-- THE SECOND FORM's CARD OF 'laws.FnSame'. -/
def fnSameUptoCard : Claim7 := { stood := { row := fnSameUptoRow, standIns := [], harness := (true, "347c230d86275d4367f1b7d17163b155c589283f5c6c51ef07cc24d490bf4190"), looks := true }, kinds := [], alts := [], laidByText := true, laidKinds := [.data, .data, .widerDeep, .widerDeep, .data, .data, .data, .data, .data, .sentinel, .sentinel, .pinned, .pinned], laidTests := true, laidLooks := .later }
def FnSameUptoCardSaid : Prop := Claim7.holds Tryz.pinned (.plain (OpenSpec.upto fnSameSpec)) fnSameUptoCard
end Rows
end Go.Proofs.YthdnkcofcbinhaaGreatDoor
