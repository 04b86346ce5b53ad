/- The law's walk: whatever the argument, if its text is not longer than a machine holds, true; and nothing that was there has changed. -/
import Derived.Test.YtkafelcnpnlbfaaDoorFj
import Derived.Test.YtkafelcnpnlbfaaDoorRn3
namespace Go.Proofs.YtkafelcnpnlbfaaDoor
open Go.RowKit

set_option maxRecDepth 100000 in
set_option maxHeartbeats 2000000 in
theorem law_any (v : Dat) (w : World) (cs : List Value) (hv : VA w v cs) (hlen : (tx 13 [] v).length + 1 ≤ 9223372036854775807) :
    Calls Tryd.prog 3 #[.agg cs.toArray] w fun e w' => e = .returned (.bool true) ∧ Below w.heap.size w w' := by
  have H1 := Lib.hid (fun W (hb : Below w.heap.size w W) => zzFits1_any v cs W (hv.up hb))
  have H2 := Lib.hid (fun W (hb : Below w.heap.size w W) => IsPrinted_any v W cs (hv.up hb))
  have H3 := Lib.hid (fun W (hb : Below w.heap.size w W) (hs : Shown v) => Rendered_any v W cs (hv.up hb) hs hlen)
  have H5 := Lib.hid (fun W (hb : Below w.heap.size w W) ds (hd : VA W v ds) => Same_any (SizeOf.sizeOf v + 1) v v W ds cs (by omega) hd (hv.up hb))
  obtain ⟨ka, ia, kc, ic, rfl, -⟩ := hv.inv
  have HLEN := Lib.hid hlen
  clear hv hlen
  go_enter Tryd.func3, Tryd.ntmps3
  go_wp2_with fail
  go_at_call 4
  refine (H1.out _ (up_alloc (Below.refl _ _) _)).mono ?_
  rintro e w1 ⟨b, rfl, _, hb⟩
  have HB1 := Lib.hid (up_trans (up_alloc (Below.refl w.heap.size w) _) hb)
  have HX1 := Lib.hid (blk_up (blk_new w _) hb)
  clear hb
  cases b
  · go_wp2
    go_ret
    exact ⟨rfl, HB1.out⟩
  have q0 : w1.cell? ⟨w.heap.size, 0, none⟩ = some (.int .i64 v.kind) := (blk_cell HX1.out 0).trans rfl
  have q1 : w1.cell? ⟨w.heap.size, 1, none⟩ = some (.int .i64 v.num) := (blk_cell HX1.out 1).trans rfl
  have q2 : w1.cell? ⟨w.heap.size, 2, none⟩ = some (.string v.text) := (blk_cell HX1.out 2).trans rfl
  have q3 : w1.cell? ⟨w.heap.size, 3, none⟩ = some (.slice ka v.keys.length kc) := (blk_cell HX1.out 3).trans rfl
  have q4 : w1.cell? ⟨w.heap.size, 4, none⟩ = some (.slice ia v.items.length ic) := (blk_cell HX1.out 4).trans rfl
  go_wp2_with fail
  go_at_call 5
  refine (H2.out _ HB1.out).mono ?_
  rintro e w2 ⟨b, rfl, hs, hb⟩
  have HB2 := Lib.hid (up_trans HB1.out hb)
  have HX2 := Lib.hid (blk_up HX1.out hb)
  have HS := Lib.hid hs
  clear hb hs q0 q1 q2 q3 q4
  cases b
  · go_wp2
    go_ret
    exact ⟨rfl, HB2.out⟩
  have HSH := Lib.hid (HS.out rfl)
  have q0 : w2.cell? ⟨w.heap.size, 0, none⟩ = some (.int .i64 v.kind) := (blk_cell HX2.out 0).trans rfl
  have q1 : w2.cell? ⟨w.heap.size, 1, none⟩ = some (.int .i64 v.num) := (blk_cell HX2.out 1).trans rfl
  have q2 : w2.cell? ⟨w.heap.size, 2, none⟩ = some (.string v.text) := (blk_cell HX2.out 2).trans rfl
  have q3 : w2.cell? ⟨w.heap.size, 3, none⟩ = some (.slice ka v.keys.length kc) := (blk_cell HX2.out 3).trans rfl
  have q4 : w2.cell? ⟨w.heap.size, 4, none⟩ = some (.slice ia v.items.length ic) := (blk_cell HX2.out 4).trans rfl
  go_wp2_with fail
  go_at_call 7
  refine (H3.out _ HB2.out HSH.out).mono ?_
  rintro e w3 ⟨s, rfl, hs3, hb⟩
  have HB3 := Lib.hid (up_trans HB2.out hb)
  have HX3 := Lib.hid (blk_up HX2.out hb)
  have HS3 := Lib.hid hs3
  have HSZ : Hid (s.size ≤ 9223372036854775807) := Lib.hid (by
    have h := congrArg List.length hs3
    rw [bs_len] at h
    have := HLEN.out
    simp at h
    omega)
  clear hb hs3 q0 q1 q2 q3 q4
  go_wp2_with fail
  go_at_call 6
  refine (FromJSON_any v s w3 HSH.out.1 HSH.out.2.1 HSH.out.2.2 HS3.out HSZ.out).mono ?_
  rintro e w4 ⟨ds, rfl, hv4, hb⟩
  have HB4 := Lib.hid (up_trans HB3.out hb)
  have HX4 := Lib.hid (blk_up HX3.out hb)
  obtain ⟨ka', ia', kc', ic', rfl⟩ := hv4.shape
  have HV4 := Lib.hid (fun W (hb : Below w4.heap.size w4 W) => hv4.up hb)
  clear hb hv4
  have q0 : w4.cell? ⟨w.heap.size, 0, none⟩ = some (.int .i64 v.kind) := (blk_cell HX4.out 0).trans rfl
  have q1 : w4.cell? ⟨w.heap.size, 1, none⟩ = some (.int .i64 v.num) := (blk_cell HX4.out 1).trans rfl
  have q2 : w4.cell? ⟨w.heap.size, 2, none⟩ = some (.string v.text) := (blk_cell HX4.out 2).trans rfl
  have q3 : w4.cell? ⟨w.heap.size, 3, none⟩ = some (.slice ka v.keys.length kc) := (blk_cell HX4.out 3).trans rfl
  have q4 : w4.cell? ⟨w.heap.size, 4, none⟩ = some (.slice ia v.items.length ic) := (blk_cell HX4.out 4).trans rfl
  have hz4 : w.heap.size < w4.heap.size := blk_lt HX4.out
  go_wp2_with fail
  go_at_call 8
  refine (H5.out _ (up_trans HB4.out (up_alloc (Below.refl _ _) _)) _ (HV4.out _ (up_alloc (Below.refl _ _) _))).mono ?_
  rintro e w5 ⟨rfl, hb⟩
  have HB5 := Lib.hid (up_trans HB4.out (up_trans (up_alloc (Below.refl _ _) _) hb))
  clear hb
  have he : eqD v v = true := eqD_true rfl
  go_wp2
  go_ret
  exact ⟨rfl, HB5.out⟩
end Go.Proofs.YtkafelcnpnlbfaaDoor
