/-
  DERIVED. GIVEN WITH THE SEED: THE CARDS: each row of YtefhboojobfchaaGreatDoorRows.lean that lists a variable, with what it lists TIED to the program's text (the seventh form; the later family's looks); each row that meets fmt, with fmt's text TOLD by the authors' own Lean function (tested against real Go, not proved from fmt's source: count such statements apart). THE CARD IS WHAT COUNTS. Prove the row's statement (the work); the ties are given (YtefhboojobfchaaGreatDoorTie.lean); close each card by the builder's one call (the guide's Derived/Test/ToyasCard.lean, 'card_holds'). Laid BY PROGRAM, IN A SANDBOX (cutbox-door.mjs). By AI agents, Wed Nov 11 2026. No macro, syntax, notation, axiom, sorry.
-/
import Derived.Test.YtefhboojobfchaaGreatDoorRows
import GoSem.ClaimSeven
namespace Go.Proofs.YtefhboojobfchaaGreatDoor
namespace Rows

/-- THE TIED CARD OF 'laws.FnHasType'. -/
def fnHasTypeCard : Claim7 := { stood := { row := fnHasTypeRow, standIns := [], harness := (true, "33109b40ca91f1871bc29721d04a17b637341700cd3b7c024ba9e7a618532199"), looks := true }, kinds := [], alts := [], laidByText := true, laidKinds := [.data, .data, .widerDeep, .widerDeep, .data, .data, .data, .data, .data, .sentinel, .sentinel, .pinned, .pinned], laidTests := true, laidLooks := .later }
def FnHasTypeCardSaid : Prop := Claim7.holds Tryz.pinned (.plain (OpenSpec.ofChange fnHasTypeSpec)) fnHasTypeCard

/-- THE SECOND FORM's CARD OF 'laws.FnHasType'. -/
def fnHasTypeUptoCard : Claim7 := { stood := { row := fnHasTypeUptoRow, standIns := [], harness := (true, "33109b40ca91f1871bc29721d04a17b637341700cd3b7c024ba9e7a618532199"), looks := true }, kinds := [], alts := [], laidByText := true, laidKinds := [.data, .data, .widerDeep, .widerDeep, .data, .data, .data, .data, .data, .sentinel, .sentinel, .pinned, .pinned], laidTests := true, laidLooks := .later }
def FnHasTypeUptoCardSaid : Prop := Claim7.holds Tryz.pinned (.plain (OpenSpec.upto fnHasTypeSpec)) fnHasTypeUptoCard
end Rows
end Go.Proofs.YtefhboojobfchaaGreatDoor
