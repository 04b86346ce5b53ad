/- The witness: a start at which the listed tables lie (no program's steps here). -/
import Derived.Test.YtefhboojobfchaaGreatDoorRows
import Derived.ProofKit
import Derived.OpenShut
import Derived.Carry
import Derived.LaidMore
import Derived.Lay
import Derived.Deep.DeepHandedRow
import Derived.Deep.DeepWitnessRowRef
set_option linter.unusedVariables false
set_option linter.unusedSimpArgs false
namespace Go.Proofs.YtefhboojobfchaaGreatDoor
open Go.ChangeShapes Go.WideShapes Go.ChangeAt Go.RowKit

/-- The listed tables' start. -/
theorem door_met (os : Os) (args : Array Value) : laidMetH Tryz.prog Rows.fnHasTypeRow.laid ((World.laidAll Tryz.prog os Rows.fnHasTypeRow.laid).forCall (fun _ _ => 0) ⟨#[], args, []⟩).memory := by
  show laidMet Tryz.prog Rows.fnHasTypeRow.laid _
  exact laidMet_laidAll _ (by kernel_rfl) (by kernel_rfl)
def noVal : Value := .agg #[.int .i64 0, .int .i64 0, .string ⟨#[]⟩, .slice none 0 0, .slice none 0 0]
theorem reads (os : Os) {H : Type} (enc : TypeId × Value → H) : ∃ places, DataW.whole enc Tryz.prog ((World.laidAll Tryz.prog os Rows.fnHasTypeRow.laid).forCall (fun _ _ => 0) ⟨#[], #[noVal, .string ⟨#[]⟩], []⟩).memory Tryz.f3.params.toList Rows.fnHasTypeSpec.vars false #[noVal, .string ⟨#[]⟩].toList 8 =
    some ([.agg [.lit (.int .i64 0), .lit (.int .i64 0), .lit (.string []), .nil, .nil], .lit (.string [])], [], places) :=
  ⟨[], by kernel_rfl⟩

noncomputable def start (os : Os) : World := (World.laidAll Tryz.prog os Rows.fnHasTypeRow.laid).forCall (fun _ _ => 0) ⟨#[], #[noVal, .string ⟨#[]⟩], []⟩
theorem start_vars (os : Os) : (start os).variablesZipB Tryz.prog = true := by kernel_rfl
theorem start_rest (os : Os) : ((start os).heap.toList.drop Tryz.prog.globals.size).take ((begin Tryz.prog (fun _ _ => 0) default).world.heap.size - Tryz.prog.globals.size) =
      (begin Tryz.prog (fun _ _ => 0) default).world.heap.toList.drop Tryz.prog.globals.size := by kernel_rfl
theorem start_ok (os : Os) : Input.okWideB Tryz.prog (start os) 3 ⟨#[], #[noVal, .string ⟨#[]⟩], []⟩ = true := by kernel_rfl
theorem start_sized (os : Os) {H : Type} (enc : TypeId × Value → H) : (OpenSpec.ofChange Rows.fnHasTypeSpec).bare.sizedB enc Tryz.prog Tryz.f3 false (start os).memory #[noVal, .string ⟨#[]⟩] 8 = true := by kernel_rfl

end Go.Proofs.YtefhboojobfchaaGreatDoor
