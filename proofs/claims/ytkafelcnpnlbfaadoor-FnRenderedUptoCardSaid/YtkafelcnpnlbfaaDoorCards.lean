/-
  DERIVED. GIVEN WITH THE SEED: THE CARDS: each row of YtkafelcnpnlbfaaDoorRows.lean that lists a variable, with what it lists TIED to the program's text (the seventh form; the later family's looks); each row that meets fmt, with fmt's text TOLD by the authors' own Lean function (tested against real Go, not proved from fmt's source: count such statements apart). THE CARD IS WHAT COUNTS. Prove the row's statement (the work); the ties are given (YtkafelcnpnlbfaaDoorTie.lean); close each card by the builder's one call (the guide's Derived/Test/ToyasCard.lean, 'card_holds'). Laid BY PROGRAM, IN A SANDBOX (cutbox-door.mjs). By AI agents, Wed Nov 11 2026. No macro, syntax, notation, axiom, sorry.
-/
import Derived.Test.YtkafelcnpnlbfaaDoorRows
import GoSem.ClaimSeven
namespace Go.Proofs.YtkafelcnpnlbfaaDoor
namespace Rows

/-- THE TIED CARD OF 'laws.FnRendered'. -/
def fnRenderedCard : Claim7 := { stood := { row := fnRenderedRow, standIns := [], harness := (true, "519048f75b6f1e6e68993f9d590a841f7f6a564f8e22d30b25d4d750804d5511"), looks := false }, kinds := [], alts := [], laidByText := true, laidKinds := [.data, .data, .data], laidTests := true, laidLooks := .later }
def FnRenderedCardSaid : Prop := Claim7.holds Tryd.pinned (.plain (OpenSpec.ofChange fnRenderedSpec)) fnRenderedCard

/-- THE SECOND FORM's CARD OF 'laws.FnRendered'. -/
def fnRenderedUptoCard : Claim7 := { stood := { row := fnRenderedUptoRow, standIns := [], harness := (true, "519048f75b6f1e6e68993f9d590a841f7f6a564f8e22d30b25d4d750804d5511"), looks := false }, kinds := [], alts := [], laidByText := true, laidKinds := [.data, .data, .data], laidTests := true, laidLooks := .later }
def FnRenderedUptoCardSaid : Prop := Claim7.holds Tryd.pinned (.plain (OpenSpec.upto fnRenderedSpec)) fnRenderedUptoCard
end Rows
end Go.Proofs.YtkafelcnpnlbfaaDoor
