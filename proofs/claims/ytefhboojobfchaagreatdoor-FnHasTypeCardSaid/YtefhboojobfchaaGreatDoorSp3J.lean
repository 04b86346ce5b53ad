/- The reference's functions over whole Values, the rest. -/
import Derived.Test.YtefhboojobfchaaGreatDoorSp2J
import Derived.Deep.RegionHeld3
set_option linter.unusedVariables false
set_option linter.unusedSimpArgs false
namespace Go.Proofs.YtefhboojobfchaaGreatDoor
open Go.RowKit

theorem isPlain_any (D : Nat) (hD : D ≤ 12) : ∀ (v : Dat) (w : World) (cs : List Value), VA w v cs → Calls Tryz.prog 14 #[.agg cs.toArray, .int .i64 D] w (SomeBool (Plain D v) w) := by
  induction D with
  | zero => exact isPlain_step 0 hD (fun D' h => by omega)
  | succ D ih => exact isPlain_step (D + 1) hD (fun D' h => by obtain rfl : D' = D := by omega
                                                               exact ih (by omega))

set_option maxHeartbeats 1000000 in
theorem IsData_any (v : Dat) (w : World) (cs : List Value) (hv : VA w v cs) : Calls Tryz.prog 9 #[.agg cs.toArray] w (SomeBool (Plain 12 v) w) := by
  obtain ⟨ka, ia, kc, ic, rfl, _⟩ := hv.inv
  have H1 := Lib.hid (fun W (hb : Below w.heap.size w W) => isPlain_any 12 (by omega) v W _ (hv.up hb))
  have H2 := Lib.hid (fun W (hb : Below w.heap.size w W) => size_any (SizeOf.sizeOf v + 1) v W _ (by omega) (hv.up hb))
  clear hv
  go_enter Tryz.func9, Tryz.ntmps9
  go_wp2_with fail
  refine (H1.out _ (up_alloc (Below.refl _ _) _)).mono ?_
  rintro e w1 ⟨b, rfl, hp, hb⟩
  have HB1 := Lib.hid (up_trans (up_alloc (Below.refl _ _) _) hb)
  have HX := Lib.hid (blk_up (blk_new w _) hb)
  have HP := Lib.hid hp
  clear hp hb
  have c0 : w1.cell? ⟨w.heap.size, 0, none⟩ = some (.int .i64 v.kind) := (blk_cell HX.out 0).trans rfl
  have c1 : w1.cell? ⟨w.heap.size, 1, none⟩ = some (.int .i64 v.num) := (blk_cell HX.out 1).trans rfl
  have c2 : w1.cell? ⟨w.heap.size, 2, none⟩ = some (.string v.text) := (blk_cell HX.out 2).trans rfl
  have c3 : w1.cell? ⟨w.heap.size, 3, none⟩ = some (.slice ka v.keys.length kc) := (blk_cell HX.out 3).trans rfl
  have c4 : w1.cell? ⟨w.heap.size, 4, none⟩ = some (.slice ia v.items.length ic) := (blk_cell HX.out 4).trans rfl
  cases b
  · go_wp2
    go_ret
    exact ⟨false, rfl, by simp, HB1.out⟩
  · go_wp2_with fail
    refine (H2.out _ HB1.out).mono ?_
    rintro e w2 ⟨n, rfl, hb⟩
    have HB2 := Lib.hid hb
    clear hb
    go_wp2
    go_ret
    exact ⟨_, rfl, fun _ => HP.out (by simp), up_trans HB1.out HB2.out⟩

end Go.Proofs.YtefhboojobfchaaGreatDoor
