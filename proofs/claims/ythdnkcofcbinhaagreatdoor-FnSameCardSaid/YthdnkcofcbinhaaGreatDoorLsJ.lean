/- The law's walk: whatever the arguments, if the text that describes the first is not longer than a machine holds, true; and nothing that was there has changed. -/
import Derived.Test.YthdnkcofcbinhaaGreatDoorBwJ
import Derived.Test.YthdnkcofcbinhaaGreatDoorIs4J
import Derived.Test.YthdnkcofcbinhaaGreatDoorKiJ
import Derived.Test.YthdnkcofcbinhaaGreatDoorNaJ
import Derived.Test.YthdnkcofcbinhaaGreatDoorNmJ
set_option linter.unusedVariables false
set_option linter.unusedSimpArgs false
namespace Go.Proofs.YthdnkcofcbinhaaGreatDoor
open Go.RowKit

set_option maxRecDepth 100000 in
set_option maxHeartbeats 8000000 in
theorem law_any (x y : Dat) (w : World) (cs ds : List Value) (hv : VA w x cs) (hu : VA w y ds) (hT : Tab w) (hF : FT w.heap.size w) (hlen : Plain 12 x → (descr 13 [] x).length ≤ 9223372036854775807) :
    Calls Tryz.prog 3 #[.agg cs.toArray, .agg ds.toArray] w fun e w' => e = .returned (.bool true) ∧ Below w.heap.size w w' := by
  have HA1 := Lib.hid (fun W (hb : Below w.heap.size w W) => zzFits1_any x cs W (hv.up hb))
  have HB1 := Lib.hid (fun W (hb : Below w.heap.size w W) => zzFits1_any y ds W (hu.up hb))
  have HA2 := Lib.hid (fun W (hb : Below w.heap.size w W) => IsSchema_any x W cs (hv.up hb))
  have HB2 := Lib.hid (fun W (hb : Below w.heap.size w W) => IsSchema_any y W ds (hu.up hb))
  have HA3 := Lib.hid (fun W (hb : Below w.heap.size w W) (hp : Plain 12 x) => Comparable_any 12 x W cs hp (hv.up hb))
  have HB3 := Lib.hid (fun W (hb : Below w.heap.size w W) (hp : Plain 12 y) => Comparable_any 12 y W ds hp (hu.up hb))
  have HA4 := Lib.hid (fun W (hb : Below w.heap.size w W) (hp : Plain 12 x) => norm_all 12 12 (fun k => k < W.heap.size) x W cs (Nat.le_refl _) (fun k h => h) hp (hv.up hb).allS)
  have HB4 := Lib.hid (fun W (hb : Below w.heap.size w W) (hp : Plain 12 y) => norm_all 12 12 (fun k => k < W.heap.size) y W ds (Nat.le_refl _) (fun k h => h) hp (hu.up hb).allS)
  have HL := Lib.hid (fun W (hb : Below w.heap.size w W) (hp : Plain 12 x) (hq : Plain 12 y) (ox : OkD x) (oy : OkD y) (he : descr 13 [] x = descr 13 [] y) => impl_Same 12 x y W cs ds (hv.up hb) (hu.up hb) (hT.up hb) ((hF.move (fun k hk => hb.block k hk)).wide hb.size) hp hq ox oy (hlen hp) he)
  obtain ⟨ka, ia, kc, ic, rfl, -⟩ := hv.inv
  obtain ⟨kb, ib, kd, id_, rfl, -⟩ := hu.inv
  clear hv hu hT hF hlen
  obtain ⟨W2, hW2⟩ : ∃ W2, W2 = (w.alloc (.cells #[.int .i64 x.kind, .int .i64 x.num, .string x.text, .slice ka x.keys.length kc, .slice ia x.items.length ic] 25 (0, 0))).alloc (.cells #[.int .i64 y.kind, .int .i64 y.num, .string y.text, .slice kb y.keys.length kd, .slice ib y.items.length id_] 25 (0, 0)) := ⟨_, rfl⟩
  have HSF0 : Hid (∀ W : World, Below (w.heap.size + 2) ((w.alloc (.cells #[.int .i64 x.kind, .int .i64 x.num, .string x.text, .slice ka x.keys.length kc, .slice ia x.items.length ic] 25 (0, 0))).alloc (.cells #[.int .i64 y.kind, .int .i64 y.num, .string y.text, .slice kb y.keys.length kd, .slice ib y.items.length id_] 25 (0, 0))) W →
    W.cell? ⟨w.heap.size, 0, none⟩ = some (.int .i64 x.kind) ∧ W.cell? ⟨w.heap.size, 1, none⟩ = some (.int .i64 x.num) ∧ W.cell? ⟨w.heap.size, 2, none⟩ = some (.string x.text) ∧ W.cell? ⟨w.heap.size, 3, none⟩ = some (.slice ka x.keys.length kc) ∧ W.cell? ⟨w.heap.size, 4, none⟩ = some (.slice ia x.items.length ic) ∧
    W.cell? ⟨w.heap.size + 1, 0, none⟩ = some (.int .i64 y.kind) ∧ W.cell? ⟨w.heap.size + 1, 1, none⟩ = some (.int .i64 y.num) ∧ W.cell? ⟨w.heap.size + 1, 2, none⟩ = some (.string y.text) ∧ W.cell? ⟨w.heap.size + 1, 3, none⟩ = some (.slice kb y.keys.length kd) ∧ W.cell? ⟨w.heap.size + 1, 4, none⟩ = some (.slice ib y.items.length id_)
    ) := Lib.hid (fun W hb => by
      have e : (w.alloc (.cells #[.int .i64 x.kind, .int .i64 x.num, .string x.text, .slice ka x.keys.length kc, .slice ia x.items.length ic] 25 (0, 0))).heap.size = w.heap.size + 1 := by simp
      have h1 := (hb.block w.heap.size (by omega)).trans (blk_up (blk_new w (.cells #[.int .i64 x.kind, .int .i64 x.num, .string x.text, .slice ka x.keys.length kc, .slice ia x.items.length ic] 25 (0, 0))) (up_alloc (Below.refl _ _) _))
      have h2 : W.heap[w.heap.size + 1]? = some (.cells #[.int .i64 y.kind, .int .i64 y.num, .string y.text, .slice kb y.keys.length kd, .slice ib y.items.length id_] 25 (0, 0)) := (hb.block (w.heap.size + 1) (by omega)).trans (by have := blk_new (w.alloc (.cells #[.int .i64 x.kind, .int .i64 x.num, .string x.text, .slice ka x.keys.length kc, .slice ia x.items.length ic] 25 (0, 0))) (.cells #[.int .i64 y.kind, .int .i64 y.num, .string y.text, .slice kb y.keys.length kd, .slice ib y.items.length id_] 25 (0, 0)); rwa [e] at this)
      exact ⟨(blk_cell h1 0).trans rfl, (blk_cell h1 1).trans rfl, (blk_cell h1 2).trans rfl, (blk_cell h1 3).trans rfl, (blk_cell h1 4).trans rfl, (blk_cell h2 0).trans rfl, (blk_cell h2 1).trans rfl, (blk_cell h2 2).trans rfl, (blk_cell h2 3).trans rfl, (blk_cell h2 4).trans rfl⟩)
  rw [← hW2] at HSF0
  have HSF := HSF0
  have HZ2 : Hid (W2.heap.size = w.heap.size + 2) := Lib.hid (by rw [hW2]; simp)
  have HU2 : Hid (Below w.heap.size w W2) := Lib.hid (by rw [hW2]; exact up_alloc (up_alloc (Below.refl _ _) _) _)
  have HEQ := Lib.hid hW2
  clear HSF0 hW2
  have HBW2 := Lib.hid (Below.refl W2.heap.size W2)
  have HT : Hid (∀ W, Below W2.heap.size W2 W → Below w.heap.size w W) := Lib.hid (fun W h => up_trans HU2.out h)
  go_enter Tryz.func3, Tryz.ntmps3
  go_wp2_with fail
  rw [← HEQ.out]
  go_at_call 4
  refine (HA1.out _ HU2.out).mono ?_
  rintro e w1 ⟨b, rfl, -, hb⟩
  have HBw1 := Lib.hid hb
  clear hb
  cases b
  · go_wp2
    go_ret
    exact ⟨rfl, HT.out _ HBw1.out⟩
  obtain ⟨x0, x1, x2, x3, x4, y0, y1, y2, y3, y4⟩ := HSF.out w1 (HBw1.out.mono (by have := HZ2.out; omega))
  go_wp2_with fail
  go_at_call 4
  refine (HB1.out _ (HT.out _ HBw1.out)).mono ?_
  rintro e w2 ⟨b, rfl, -, hb⟩
  have HBw2 := Lib.hid (up_trans HBw1.out hb)
  clear hb x0 x1 x2 x3 x4 y0 y1 y2 y3 y4
  cases b
  · go_wp2
    go_ret
    exact ⟨rfl, HT.out _ HBw2.out⟩
  go_wp2_with fail
  refine AnyT.begin (L := 99) (n := 26) (S := fun w' =>
    w'.cell? ⟨w.heap.size, 0, none⟩ = some (.int .i64 x.kind) ∧ w'.cell? ⟨w.heap.size, 1, none⟩ = some (.int .i64 x.num) ∧ w'.cell? ⟨w.heap.size, 2, none⟩ = some (.string x.text) ∧ w'.cell? ⟨w.heap.size, 3, none⟩ = some (.slice ka x.keys.length kc) ∧ w'.cell? ⟨w.heap.size, 4, none⟩ = some (.slice ia x.items.length ic) ∧
    w'.cell? ⟨w.heap.size + 1, 0, none⟩ = some (.int .i64 y.kind) ∧ w'.cell? ⟨w.heap.size + 1, 1, none⟩ = some (.int .i64 y.num) ∧ w'.cell? ⟨w.heap.size + 1, 2, none⟩ = some (.string y.text) ∧ w'.cell? ⟨w.heap.size + 1, 3, none⟩ = some (.slice kb y.keys.length kd) ∧ w'.cell? ⟨w.heap.size + 1, 4, none⟩ = some (.slice ib y.items.length id_)
    ) (by kernel_rfl) rfl ?_
  have HBw3 := Lib.hid (Below.drew HBw2.out)
  generalize w2.drew = w3 at HBw3 ⊢
  have S0 := HSF.out w3 (HBw3.out.mono (by have := HZ2.out; omega))
  refine AnyT.takeS (i := 0) (d := some 13) (v := ?_) rfl rfl (by kernel_rfl) (by kernel_rfl) (by kernel_rfl) (by kernel_rfl) (fun _ _ _ h => h) (by rfl) (by assumption) ?_ ?_
  rotate_left
  · intro W hSw
    try dsimp only at hSw
    go_simp
    with_reducible rfl
  try simp only [Act.put, List.setIfInBounds_toArray, List.set_cons_zero, List.set_cons_succ]
  -- is the first a schema
  refine AnyT.one (i := 1) rfl (by kernel_rfl) (fun K' hK => ?_)
  go_simp
  go_at_call 5
  refine (HA2.out _ (HT.out _ HBw3.out)).mono ?_
  rintro e w4 ⟨b, rfl, hp, hb⟩
  have HBw4 := Lib.hid (up_trans HBw3.out hb)
  have HPX := Lib.hid hp
  clear hb hp S0
  go_wp2_with fail
  refine hK.out _ _ (fun _ _ => HSF.out _ (HBw4.out.mono (by have := HZ2.out; omega))) ?_
  clear hK K'
  try simp only [Act.put, List.setIfInBounds_toArray, List.set_cons_zero, List.set_cons_succ]
  have Sw4 := HSF.out w4 (HBw4.out.mono (by have := HZ2.out; omega))
  cases b
  · skip
    refine AnyT.takeY (i := 2) (d := some 15) (v := ?_) rfl rfl (by kernel_rfl) (by kernel_rfl) (by kernel_rfl) (fun _ _ _ h => h) (by rfl) ?_ ?_
    rotate_left
    · intro W
      go_simp
      with_reducible rfl
    try simp only [Act.put, List.setIfInBounds_toArray, List.set_cons_zero, List.set_cons_succ]
    refine AnyT.takeY (i := 3) (d := some 16) (v := ?_) rfl rfl (by kernel_rfl) (by kernel_rfl) (by kernel_rfl) (fun _ _ _ h => h) (by rfl) ?_ ?_
    rotate_left
    · intro W
      go_simp
      with_reducible rfl
    try simp only [Act.put, List.setIfInBounds_toArray, List.set_cons_zero, List.set_cons_succ]
    refine AnyT.takeU (i := 4) (d := some 17) rfl rfl (by kernel_rfl) (by kernel_rfl) (by kernel_rfl) (fun _ _ _ h => h) (by rfl) ?_
    try simp only [Act.put, List.setIfInBounds_toArray, List.set_cons_zero, List.set_cons_succ]
    refine AnyT.takeU (i := 5) (d := some 18) rfl rfl (by kernel_rfl) (by kernel_rfl) (by kernel_rfl) (fun _ _ _ h => h) (by rfl) ?_
    try simp only [Act.put, List.setIfInBounds_toArray, List.set_cons_zero, List.set_cons_succ]
    refine AnyT.takeU (i := 6) (d := some 19) rfl rfl (by kernel_rfl) (by kernel_rfl) (by kernel_rfl) (fun _ _ _ h => h) (by rfl) ?_
    try simp only [Act.put, List.setIfInBounds_toArray, List.set_cons_zero, List.set_cons_succ]
    refine AnyT.takeY (i := 7) (d := some 20) (v := ?_) rfl rfl (by kernel_rfl) (by kernel_rfl) (by kernel_rfl) (fun _ _ _ h => h) (by rfl) ?_ ?_
    rotate_left
    · intro W
      go_simp
      with_reducible rfl
    try simp only [Act.put, List.setIfInBounds_toArray, List.set_cons_zero, List.set_cons_succ]
    refine AnyT.takeY (i := 8) (d := some 21) (v := ?_) rfl rfl (by kernel_rfl) (by kernel_rfl) (by kernel_rfl) (fun _ _ _ h => h) (by rfl) ?_ ?_
    rotate_left
    · intro W
      go_simp
      with_reducible rfl
    try simp only [Act.put, List.setIfInBounds_toArray, List.set_cons_zero, List.set_cons_succ]
    refine AnyT.takeU (i := 9) (d := some 22) rfl rfl (by kernel_rfl) (by kernel_rfl) (by kernel_rfl) (fun _ _ _ h => h) (by rfl) ?_
    try simp only [Act.put, List.setIfInBounds_toArray, List.set_cons_zero, List.set_cons_succ]
    refine AnyT.takeU (i := 10) (d := some 23) rfl rfl (by kernel_rfl) (by kernel_rfl) (by kernel_rfl) (fun _ _ _ h => h) (by rfl) ?_
    try simp only [Act.put, List.setIfInBounds_toArray, List.set_cons_zero, List.set_cons_succ]
    refine AnyT.takeU (i := 11) (d := some 24) rfl rfl (by kernel_rfl) (by kernel_rfl) (by kernel_rfl) (fun _ _ _ h => h) (by rfl) ?_
    try simp only [Act.put, List.setIfInBounds_toArray, List.set_cons_zero, List.set_cons_succ]
    refine AnyT.takeY (i := 12) (d := some 25) (v := ?_) rfl rfl (by kernel_rfl) (by kernel_rfl) (by kernel_rfl) (fun _ _ _ h => h) (by rfl) ?_ ?_
    rotate_left
    · intro W
      go_simp
      with_reducible rfl
    try simp only [Act.put, List.setIfInBounds_toArray, List.set_cons_zero, List.set_cons_succ]
    refine AnyT.takeY (i := 13) (d := some 26) (v := ?_) rfl rfl (by kernel_rfl) (by kernel_rfl) (by kernel_rfl) (fun _ _ _ h => h) (by rfl) ?_ ?_
    rotate_left
    · intro W
      go_simp
      with_reducible rfl
    try simp only [Act.put, List.setIfInBounds_toArray, List.set_cons_zero, List.set_cons_succ]
    refine AnyT.takeU (i := 14) (d := some 27) rfl rfl (by kernel_rfl) (by kernel_rfl) (by kernel_rfl) (fun _ _ _ h => h) (by rfl) ?_
    try simp only [Act.put, List.setIfInBounds_toArray, List.set_cons_zero, List.set_cons_succ]
    refine AnyT.takeU (i := 15) (d := some 28) rfl rfl (by kernel_rfl) (by kernel_rfl) (by kernel_rfl) (fun _ _ _ h => h) (by rfl) ?_
    try simp only [Act.put, List.setIfInBounds_toArray, List.set_cons_zero, List.set_cons_succ]
    refine AnyT.takeU (i := 16) (d := some 29) rfl rfl (by kernel_rfl) (by kernel_rfl) (by kernel_rfl) (fun _ _ _ h => h) (by rfl) ?_
    try simp only [Act.put, List.setIfInBounds_toArray, List.set_cons_zero, List.set_cons_succ]
    refine AnyT.takeY (i := 17) (d := some 30) (v := ?_) rfl rfl (by kernel_rfl) (by kernel_rfl) (by kernel_rfl) (fun _ _ _ h => h) (by rfl) ?_ ?_
    rotate_left
    · intro W
      go_simp
      with_reducible rfl
    try simp only [Act.put, List.setIfInBounds_toArray, List.set_cons_zero, List.set_cons_succ]
    refine AnyT.takeY (i := 18) (d := some 31) (v := ?_) rfl rfl (by kernel_rfl) (by kernel_rfl) (by kernel_rfl) (fun _ _ _ h => h) (by rfl) ?_ ?_
    rotate_left
    · intro W
      go_simp
      with_reducible rfl
    try simp only [Act.put, List.setIfInBounds_toArray, List.set_cons_zero, List.set_cons_succ]
    refine AnyT.takeU (i := 19) (d := some 32) rfl rfl (by kernel_rfl) (by kernel_rfl) (by kernel_rfl) (fun _ _ _ h => h) (by rfl) ?_
    try simp only [Act.put, List.setIfInBounds_toArray, List.set_cons_zero, List.set_cons_succ]
    refine AnyT.takeU (i := 20) (d := some 33) rfl rfl (by kernel_rfl) (by kernel_rfl) (by kernel_rfl) (fun _ _ _ h => h) (by rfl) ?_
    try simp only [Act.put, List.setIfInBounds_toArray, List.set_cons_zero, List.set_cons_succ]
    refine AnyT.takeU (i := 21) (d := some 34) rfl rfl (by kernel_rfl) (by kernel_rfl) (by kernel_rfl) (fun _ _ _ h => h) (by rfl) ?_
    try simp only [Act.put, List.setIfInBounds_toArray, List.set_cons_zero, List.set_cons_succ]
    refine AnyT.takeU (i := 22) (d := some 35) rfl rfl (by kernel_rfl) (by kernel_rfl) (by kernel_rfl) (fun _ _ _ h => h) (by rfl) ?_
    try simp only [Act.put, List.setIfInBounds_toArray, List.set_cons_zero, List.set_cons_succ]
    refine AnyT.takeU (i := 23) (d := some 36) rfl rfl (by kernel_rfl) (by kernel_rfl) (by kernel_rfl) (fun _ _ _ h => h) (by rfl) ?_
    try simp only [Act.put, List.setIfInBounds_toArray, List.set_cons_zero, List.set_cons_succ]
    refine AnyT.takeU (i := 24) (d := some 37) rfl rfl (by kernel_rfl) (by kernel_rfl) (by kernel_rfl) (fun _ _ _ h => h) (by rfl) ?_
    try simp only [Act.put, List.setIfInBounds_toArray, List.set_cons_zero, List.set_cons_succ]
    refine AnyT.takeY (i := 25) (d := some 38) (v := ?_) rfl rfl (by kernel_rfl) (by kernel_rfl) (by kernel_rfl) (fun _ _ _ h => h) (by rfl) ?_ ?_
    rotate_left
    · intro W
      go_simp
      with_reducible rfl
    try simp only [Act.put, List.setIfInBounds_toArray, List.set_cons_zero, List.set_cons_succ]
    refine AnyT.end (by kernel_rfl) ?_ _
    try simp only [Act.put, List.setIfInBounds_toArray, List.set_cons_zero, List.set_cons_succ]
    go_wp2
    go_ret
    exact ⟨rfl, HT.out _ HBw4.out⟩
  refine AnyT.takeY (i := 2) (d := some 15) (v := ?_) rfl rfl (by kernel_rfl) (by kernel_rfl) (by kernel_rfl) (fun _ _ _ h => h) (by rfl) ?_ ?_
  rotate_left
  · intro W
    go_simp
    with_reducible rfl
  try simp only [Act.put, List.setIfInBounds_toArray, List.set_cons_zero, List.set_cons_succ]
  refine AnyT.takeY (i := 3) (d := some 16) (v := ?_) rfl rfl (by kernel_rfl) (by kernel_rfl) (by kernel_rfl) (fun _ _ _ h => h) (by rfl) ?_ ?_
  rotate_left
  · intro W
    go_simp
    with_reducible rfl
  try simp only [Act.put, List.setIfInBounds_toArray, List.set_cons_zero, List.set_cons_succ]
  refine AnyT.takeS (i := 4) (d := some 17) (v := ?_) rfl rfl (by kernel_rfl) (by kernel_rfl) (by kernel_rfl) (by kernel_rfl) (fun _ _ _ h => h) (by rfl) (by assumption) ?_ ?_
  rotate_left
  · intro W hSw
    try dsimp only at hSw
    go_simp
    with_reducible rfl
  try simp only [Act.put, List.setIfInBounds_toArray, List.set_cons_zero, List.set_cons_succ]
  refine AnyT.one (i := 5) rfl (by kernel_rfl) (fun K' hK => ?_)
  go_simp
  go_at_call 5
  refine (HB2.out _ (HT.out _ HBw4.out)).mono ?_
  rintro e w5 ⟨b, rfl, hp, hb⟩
  have HBw5 := Lib.hid (up_trans HBw4.out hb)
  have HPY := Lib.hid hp
  clear hb hp Sw4
  go_wp2_with fail
  refine hK.out _ _ (fun _ _ => HSF.out _ (HBw5.out.mono (by have := HZ2.out; omega))) ?_
  clear hK K'
  try simp only [Act.put, List.setIfInBounds_toArray, List.set_cons_zero, List.set_cons_succ]
  have Sw5 := HSF.out w5 (HBw5.out.mono (by have := HZ2.out; omega))
  cases b
  · skip
    refine AnyT.takeY (i := 6) (d := some 19) (v := ?_) rfl rfl (by kernel_rfl) (by kernel_rfl) (by kernel_rfl) (fun _ _ _ h => h) (by rfl) ?_ ?_
    rotate_left
    · intro W
      go_simp
      with_reducible rfl
    try simp only [Act.put, List.setIfInBounds_toArray, List.set_cons_zero, List.set_cons_succ]
    refine AnyT.takeY (i := 7) (d := some 20) (v := ?_) rfl rfl (by kernel_rfl) (by kernel_rfl) (by kernel_rfl) (fun _ _ _ h => h) (by rfl) ?_ ?_
    rotate_left
    · intro W
      go_simp
      with_reducible rfl
    try simp only [Act.put, List.setIfInBounds_toArray, List.set_cons_zero, List.set_cons_succ]
    refine AnyT.takeY (i := 8) (d := some 21) (v := ?_) rfl rfl (by kernel_rfl) (by kernel_rfl) (by kernel_rfl) (fun _ _ _ h => h) (by rfl) ?_ ?_
    rotate_left
    · intro W
      go_simp
      with_reducible rfl
    try simp only [Act.put, List.setIfInBounds_toArray, List.set_cons_zero, List.set_cons_succ]
    refine AnyT.takeU (i := 9) (d := some 22) rfl rfl (by kernel_rfl) (by kernel_rfl) (by kernel_rfl) (fun _ _ _ h => h) (by rfl) ?_
    try simp only [Act.put, List.setIfInBounds_toArray, List.set_cons_zero, List.set_cons_succ]
    refine AnyT.takeU (i := 10) (d := some 23) rfl rfl (by kernel_rfl) (by kernel_rfl) (by kernel_rfl) (fun _ _ _ h => h) (by rfl) ?_
    try simp only [Act.put, List.setIfInBounds_toArray, List.set_cons_zero, List.set_cons_succ]
    refine AnyT.takeU (i := 11) (d := some 24) rfl rfl (by kernel_rfl) (by kernel_rfl) (by kernel_rfl) (fun _ _ _ h => h) (by rfl) ?_
    try simp only [Act.put, List.setIfInBounds_toArray, List.set_cons_zero, List.set_cons_succ]
    refine AnyT.takeY (i := 12) (d := some 25) (v := ?_) rfl rfl (by kernel_rfl) (by kernel_rfl) (by kernel_rfl) (fun _ _ _ h => h) (by rfl) ?_ ?_
    rotate_left
    · intro W
      go_simp
      with_reducible rfl
    try simp only [Act.put, List.setIfInBounds_toArray, List.set_cons_zero, List.set_cons_succ]
    refine AnyT.takeY (i := 13) (d := some 26) (v := ?_) rfl rfl (by kernel_rfl) (by kernel_rfl) (by kernel_rfl) (fun _ _ _ h => h) (by rfl) ?_ ?_
    rotate_left
    · intro W
      go_simp
      with_reducible rfl
    try simp only [Act.put, List.setIfInBounds_toArray, List.set_cons_zero, List.set_cons_succ]
    refine AnyT.takeU (i := 14) (d := some 27) rfl rfl (by kernel_rfl) (by kernel_rfl) (by kernel_rfl) (fun _ _ _ h => h) (by rfl) ?_
    try simp only [Act.put, List.setIfInBounds_toArray, List.set_cons_zero, List.set_cons_succ]
    refine AnyT.takeU (i := 15) (d := some 28) rfl rfl (by kernel_rfl) (by kernel_rfl) (by kernel_rfl) (fun _ _ _ h => h) (by rfl) ?_
    try simp only [Act.put, List.setIfInBounds_toArray, List.set_cons_zero, List.set_cons_succ]
    refine AnyT.takeU (i := 16) (d := some 29) rfl rfl (by kernel_rfl) (by kernel_rfl) (by kernel_rfl) (fun _ _ _ h => h) (by rfl) ?_
    try simp only [Act.put, List.setIfInBounds_toArray, List.set_cons_zero, List.set_cons_succ]
    refine AnyT.takeY (i := 17) (d := some 30) (v := ?_) rfl rfl (by kernel_rfl) (by kernel_rfl) (by kernel_rfl) (fun _ _ _ h => h) (by rfl) ?_ ?_
    rotate_left
    · intro W
      go_simp
      with_reducible rfl
    try simp only [Act.put, List.setIfInBounds_toArray, List.set_cons_zero, List.set_cons_succ]
    refine AnyT.takeY (i := 18) (d := some 31) (v := ?_) rfl rfl (by kernel_rfl) (by kernel_rfl) (by kernel_rfl) (fun _ _ _ h => h) (by rfl) ?_ ?_
    rotate_left
    · intro W
      go_simp
      with_reducible rfl
    try simp only [Act.put, List.setIfInBounds_toArray, List.set_cons_zero, List.set_cons_succ]
    refine AnyT.takeU (i := 19) (d := some 32) rfl rfl (by kernel_rfl) (by kernel_rfl) (by kernel_rfl) (fun _ _ _ h => h) (by rfl) ?_
    try simp only [Act.put, List.setIfInBounds_toArray, List.set_cons_zero, List.set_cons_succ]
    refine AnyT.takeU (i := 20) (d := some 33) rfl rfl (by kernel_rfl) (by kernel_rfl) (by kernel_rfl) (fun _ _ _ h => h) (by rfl) ?_
    try simp only [Act.put, List.setIfInBounds_toArray, List.set_cons_zero, List.set_cons_succ]
    refine AnyT.takeU (i := 21) (d := some 34) rfl rfl (by kernel_rfl) (by kernel_rfl) (by kernel_rfl) (fun _ _ _ h => h) (by rfl) ?_
    try simp only [Act.put, List.setIfInBounds_toArray, List.set_cons_zero, List.set_cons_succ]
    refine AnyT.takeU (i := 22) (d := some 35) rfl rfl (by kernel_rfl) (by kernel_rfl) (by kernel_rfl) (fun _ _ _ h => h) (by rfl) ?_
    try simp only [Act.put, List.setIfInBounds_toArray, List.set_cons_zero, List.set_cons_succ]
    refine AnyT.takeU (i := 23) (d := some 36) rfl rfl (by kernel_rfl) (by kernel_rfl) (by kernel_rfl) (fun _ _ _ h => h) (by rfl) ?_
    try simp only [Act.put, List.setIfInBounds_toArray, List.set_cons_zero, List.set_cons_succ]
    refine AnyT.takeU (i := 24) (d := some 37) rfl rfl (by kernel_rfl) (by kernel_rfl) (by kernel_rfl) (fun _ _ _ h => h) (by rfl) ?_
    try simp only [Act.put, List.setIfInBounds_toArray, List.set_cons_zero, List.set_cons_succ]
    refine AnyT.takeY (i := 25) (d := some 38) (v := ?_) rfl rfl (by kernel_rfl) (by kernel_rfl) (by kernel_rfl) (fun _ _ _ h => h) (by rfl) ?_ ?_
    rotate_left
    · intro W
      go_simp
      with_reducible rfl
    try simp only [Act.put, List.setIfInBounds_toArray, List.set_cons_zero, List.set_cons_succ]
    refine AnyT.end (by kernel_rfl) ?_ _
    try simp only [Act.put, List.setIfInBounds_toArray, List.set_cons_zero, List.set_cons_succ]
    go_wp2
    go_ret
    exact ⟨rfl, HT.out _ HBw5.out⟩
  have HSX := Lib.hid (HPX.out (by simp))
  have HSY := Lib.hid (HPY.out (by simp))
  refine AnyT.takeY (i := 6) (d := some 19) (v := ?_) rfl rfl (by kernel_rfl) (by kernel_rfl) (by kernel_rfl) (fun _ _ _ h => h) (by rfl) ?_ ?_
  rotate_left
  · intro W
    go_simp
    with_reducible rfl
  try simp only [Act.put, List.setIfInBounds_toArray, List.set_cons_zero, List.set_cons_succ]
  refine AnyT.takeY (i := 7) (d := some 20) (v := ?_) rfl rfl (by kernel_rfl) (by kernel_rfl) (by kernel_rfl) (fun _ _ _ h => h) (by rfl) ?_ ?_
  rotate_left
  · intro W
    go_simp
    with_reducible rfl
  try simp only [Act.put, List.setIfInBounds_toArray, List.set_cons_zero, List.set_cons_succ]
  refine AnyT.takeY (i := 8) (d := some 21) (v := ?_) rfl rfl (by kernel_rfl) (by kernel_rfl) (by kernel_rfl) (fun _ _ _ h => h) (by rfl) ?_ ?_
  rotate_left
  · intro W
    go_simp
    with_reducible rfl
  try simp only [Act.put, List.setIfInBounds_toArray, List.set_cons_zero, List.set_cons_succ]
  refine AnyT.takeS (i := 9) (d := some 22) (v := ?_) rfl rfl (by kernel_rfl) (by kernel_rfl) (by kernel_rfl) (by kernel_rfl) (fun _ _ _ h => h) (by rfl) (by assumption) ?_ ?_
  rotate_left
  · intro W hSw
    try dsimp only at hSw
    go_simp
    with_reducible rfl
  try simp only [Act.put, List.setIfInBounds_toArray, List.set_cons_zero, List.set_cons_succ]
  refine AnyT.one (i := 10) rfl (by kernel_rfl) (fun K' hK => ?_)
  go_simp
  go_at_call 6
  refine (HA3.out _ (HT.out _ HBw5.out) HSX.out.1).mono ?_
  rintro e w6 ⟨b, rfl, hp, hb⟩
  have HBw6 := Lib.hid (up_trans HBw5.out hb)
  have HCX := Lib.hid hp
  clear hb hp Sw5
  go_wp2_with fail
  refine hK.out _ _ (fun _ _ => HSF.out _ (HBw6.out.mono (by have := HZ2.out; omega))) ?_
  clear hK K'
  try simp only [Act.put, List.setIfInBounds_toArray, List.set_cons_zero, List.set_cons_succ]
  have Sw6 := HSF.out w6 (HBw6.out.mono (by have := HZ2.out; omega))
  cases b
  · skip
    refine AnyT.takeY (i := 11) (d := some 24) (v := ?_) rfl rfl (by kernel_rfl) (by kernel_rfl) (by kernel_rfl) (fun _ _ _ h => h) (by rfl) ?_ ?_
    rotate_left
    · intro W
      go_simp
      with_reducible rfl
    try simp only [Act.put, List.setIfInBounds_toArray, List.set_cons_zero, List.set_cons_succ]
    refine AnyT.takeY (i := 12) (d := some 25) (v := ?_) rfl rfl (by kernel_rfl) (by kernel_rfl) (by kernel_rfl) (fun _ _ _ h => h) (by rfl) ?_ ?_
    rotate_left
    · intro W
      go_simp
      with_reducible rfl
    try simp only [Act.put, List.setIfInBounds_toArray, List.set_cons_zero, List.set_cons_succ]
    refine AnyT.takeY (i := 13) (d := some 26) (v := ?_) rfl rfl (by kernel_rfl) (by kernel_rfl) (by kernel_rfl) (fun _ _ _ h => h) (by rfl) ?_ ?_
    rotate_left
    · intro W
      go_simp
      with_reducible rfl
    try simp only [Act.put, List.setIfInBounds_toArray, List.set_cons_zero, List.set_cons_succ]
    refine AnyT.takeU (i := 14) (d := some 27) rfl rfl (by kernel_rfl) (by kernel_rfl) (by kernel_rfl) (fun _ _ _ h => h) (by rfl) ?_
    try simp only [Act.put, List.setIfInBounds_toArray, List.set_cons_zero, List.set_cons_succ]
    refine AnyT.takeU (i := 15) (d := some 28) rfl rfl (by kernel_rfl) (by kernel_rfl) (by kernel_rfl) (fun _ _ _ h => h) (by rfl) ?_
    try simp only [Act.put, List.setIfInBounds_toArray, List.set_cons_zero, List.set_cons_succ]
    refine AnyT.takeU (i := 16) (d := some 29) rfl rfl (by kernel_rfl) (by kernel_rfl) (by kernel_rfl) (fun _ _ _ h => h) (by rfl) ?_
    try simp only [Act.put, List.setIfInBounds_toArray, List.set_cons_zero, List.set_cons_succ]
    refine AnyT.takeY (i := 17) (d := some 30) (v := ?_) rfl rfl (by kernel_rfl) (by kernel_rfl) (by kernel_rfl) (fun _ _ _ h => h) (by rfl) ?_ ?_
    rotate_left
    · intro W
      go_simp
      with_reducible rfl
    try simp only [Act.put, List.setIfInBounds_toArray, List.set_cons_zero, List.set_cons_succ]
    refine AnyT.takeY (i := 18) (d := some 31) (v := ?_) rfl rfl (by kernel_rfl) (by kernel_rfl) (by kernel_rfl) (fun _ _ _ h => h) (by rfl) ?_ ?_
    rotate_left
    · intro W
      go_simp
      with_reducible rfl
    try simp only [Act.put, List.setIfInBounds_toArray, List.set_cons_zero, List.set_cons_succ]
    refine AnyT.takeU (i := 19) (d := some 32) rfl rfl (by kernel_rfl) (by kernel_rfl) (by kernel_rfl) (fun _ _ _ h => h) (by rfl) ?_
    try simp only [Act.put, List.setIfInBounds_toArray, List.set_cons_zero, List.set_cons_succ]
    refine AnyT.takeU (i := 20) (d := some 33) rfl rfl (by kernel_rfl) (by kernel_rfl) (by kernel_rfl) (fun _ _ _ h => h) (by rfl) ?_
    try simp only [Act.put, List.setIfInBounds_toArray, List.set_cons_zero, List.set_cons_succ]
    refine AnyT.takeU (i := 21) (d := some 34) rfl rfl (by kernel_rfl) (by kernel_rfl) (by kernel_rfl) (fun _ _ _ h => h) (by rfl) ?_
    try simp only [Act.put, List.setIfInBounds_toArray, List.set_cons_zero, List.set_cons_succ]
    refine AnyT.takeU (i := 22) (d := some 35) rfl rfl (by kernel_rfl) (by kernel_rfl) (by kernel_rfl) (fun _ _ _ h => h) (by rfl) ?_
    try simp only [Act.put, List.setIfInBounds_toArray, List.set_cons_zero, List.set_cons_succ]
    refine AnyT.takeU (i := 23) (d := some 36) rfl rfl (by kernel_rfl) (by kernel_rfl) (by kernel_rfl) (fun _ _ _ h => h) (by rfl) ?_
    try simp only [Act.put, List.setIfInBounds_toArray, List.set_cons_zero, List.set_cons_succ]
    refine AnyT.takeU (i := 24) (d := some 37) rfl rfl (by kernel_rfl) (by kernel_rfl) (by kernel_rfl) (fun _ _ _ h => h) (by rfl) ?_
    try simp only [Act.put, List.setIfInBounds_toArray, List.set_cons_zero, List.set_cons_succ]
    refine AnyT.takeY (i := 25) (d := some 38) (v := ?_) rfl rfl (by kernel_rfl) (by kernel_rfl) (by kernel_rfl) (fun _ _ _ h => h) (by rfl) ?_ ?_
    rotate_left
    · intro W
      go_simp
      with_reducible rfl
    try simp only [Act.put, List.setIfInBounds_toArray, List.set_cons_zero, List.set_cons_succ]
    refine AnyT.end (by kernel_rfl) ?_ _
    try simp only [Act.put, List.setIfInBounds_toArray, List.set_cons_zero, List.set_cons_succ]
    go_wp2
    go_ret
    exact ⟨rfl, HT.out _ HBw6.out⟩
  refine AnyT.takeY (i := 11) (d := some 24) (v := ?_) rfl rfl (by kernel_rfl) (by kernel_rfl) (by kernel_rfl) (fun _ _ _ h => h) (by rfl) ?_ ?_
  rotate_left
  · intro W
    go_simp
    with_reducible rfl
  try simp only [Act.put, List.setIfInBounds_toArray, List.set_cons_zero, List.set_cons_succ]
  refine AnyT.takeY (i := 12) (d := some 25) (v := ?_) rfl rfl (by kernel_rfl) (by kernel_rfl) (by kernel_rfl) (fun _ _ _ h => h) (by rfl) ?_ ?_
  rotate_left
  · intro W
    go_simp
    with_reducible rfl
  try simp only [Act.put, List.setIfInBounds_toArray, List.set_cons_zero, List.set_cons_succ]
  refine AnyT.takeY (i := 13) (d := some 26) (v := ?_) rfl rfl (by kernel_rfl) (by kernel_rfl) (by kernel_rfl) (fun _ _ _ h => h) (by rfl) ?_ ?_
  rotate_left
  · intro W
    go_simp
    with_reducible rfl
  try simp only [Act.put, List.setIfInBounds_toArray, List.set_cons_zero, List.set_cons_succ]
  refine AnyT.takeS (i := 14) (d := some 27) (v := ?_) rfl rfl (by kernel_rfl) (by kernel_rfl) (by kernel_rfl) (by kernel_rfl) (fun _ _ _ h => h) (by rfl) (by assumption) ?_ ?_
  rotate_left
  · intro W hSw
    try dsimp only at hSw
    go_simp
    with_reducible rfl
  try simp only [Act.put, List.setIfInBounds_toArray, List.set_cons_zero, List.set_cons_succ]
  refine AnyT.one (i := 15) rfl (by kernel_rfl) (fun K' hK => ?_)
  go_simp
  go_at_call 6
  refine (HB3.out _ (HT.out _ HBw6.out) HSY.out.1).mono ?_
  rintro e w7 ⟨b, rfl, hp, hb⟩
  have HBw7 := Lib.hid (up_trans HBw6.out hb)
  have HCY := Lib.hid hp
  clear hb hp Sw6
  go_wp2_with fail
  refine hK.out _ _ (fun _ _ => HSF.out _ (HBw7.out.mono (by have := HZ2.out; omega))) ?_
  clear hK K'
  try simp only [Act.put, List.setIfInBounds_toArray, List.set_cons_zero, List.set_cons_succ]
  have Sw7 := HSF.out w7 (HBw7.out.mono (by have := HZ2.out; omega))
  cases b
  · skip
    refine AnyT.takeY (i := 16) (d := some 29) (v := ?_) rfl rfl (by kernel_rfl) (by kernel_rfl) (by kernel_rfl) (fun _ _ _ h => h) (by rfl) ?_ ?_
    rotate_left
    · intro W
      go_simp
      with_reducible rfl
    try simp only [Act.put, List.setIfInBounds_toArray, List.set_cons_zero, List.set_cons_succ]
    refine AnyT.takeY (i := 17) (d := some 30) (v := ?_) rfl rfl (by kernel_rfl) (by kernel_rfl) (by kernel_rfl) (fun _ _ _ h => h) (by rfl) ?_ ?_
    rotate_left
    · intro W
      go_simp
      with_reducible rfl
    try simp only [Act.put, List.setIfInBounds_toArray, List.set_cons_zero, List.set_cons_succ]
    refine AnyT.takeY (i := 18) (d := some 31) (v := ?_) rfl rfl (by kernel_rfl) (by kernel_rfl) (by kernel_rfl) (fun _ _ _ h => h) (by rfl) ?_ ?_
    rotate_left
    · intro W
      go_simp
      with_reducible rfl
    try simp only [Act.put, List.setIfInBounds_toArray, List.set_cons_zero, List.set_cons_succ]
    refine AnyT.takeU (i := 19) (d := some 32) rfl rfl (by kernel_rfl) (by kernel_rfl) (by kernel_rfl) (fun _ _ _ h => h) (by rfl) ?_
    try simp only [Act.put, List.setIfInBounds_toArray, List.set_cons_zero, List.set_cons_succ]
    refine AnyT.takeU (i := 20) (d := some 33) rfl rfl (by kernel_rfl) (by kernel_rfl) (by kernel_rfl) (fun _ _ _ h => h) (by rfl) ?_
    try simp only [Act.put, List.setIfInBounds_toArray, List.set_cons_zero, List.set_cons_succ]
    refine AnyT.takeU (i := 21) (d := some 34) rfl rfl (by kernel_rfl) (by kernel_rfl) (by kernel_rfl) (fun _ _ _ h => h) (by rfl) ?_
    try simp only [Act.put, List.setIfInBounds_toArray, List.set_cons_zero, List.set_cons_succ]
    refine AnyT.takeU (i := 22) (d := some 35) rfl rfl (by kernel_rfl) (by kernel_rfl) (by kernel_rfl) (fun _ _ _ h => h) (by rfl) ?_
    try simp only [Act.put, List.setIfInBounds_toArray, List.set_cons_zero, List.set_cons_succ]
    refine AnyT.takeU (i := 23) (d := some 36) rfl rfl (by kernel_rfl) (by kernel_rfl) (by kernel_rfl) (fun _ _ _ h => h) (by rfl) ?_
    try simp only [Act.put, List.setIfInBounds_toArray, List.set_cons_zero, List.set_cons_succ]
    refine AnyT.takeU (i := 24) (d := some 37) rfl rfl (by kernel_rfl) (by kernel_rfl) (by kernel_rfl) (fun _ _ _ h => h) (by rfl) ?_
    try simp only [Act.put, List.setIfInBounds_toArray, List.set_cons_zero, List.set_cons_succ]
    refine AnyT.takeY (i := 25) (d := some 38) (v := ?_) rfl rfl (by kernel_rfl) (by kernel_rfl) (by kernel_rfl) (fun _ _ _ h => h) (by rfl) ?_ ?_
    rotate_left
    · intro W
      go_simp
      with_reducible rfl
    try simp only [Act.put, List.setIfInBounds_toArray, List.set_cons_zero, List.set_cons_succ]
    refine AnyT.end (by kernel_rfl) ?_ _
    try simp only [Act.put, List.setIfInBounds_toArray, List.set_cons_zero, List.set_cons_succ]
    go_wp2
    go_ret
    exact ⟨rfl, HT.out _ HBw7.out⟩
  have HDX := Lib.hid (HCX.out (by simp))
  have HDY := Lib.hid (HCY.out (by simp))
  refine AnyT.takeY (i := 16) (d := some 29) (v := ?_) rfl rfl (by kernel_rfl) (by kernel_rfl) (by kernel_rfl) (fun _ _ _ h => h) (by rfl) ?_ ?_
  rotate_left
  · intro W
    go_simp
    with_reducible rfl
  try simp only [Act.put, List.setIfInBounds_toArray, List.set_cons_zero, List.set_cons_succ]
  refine AnyT.takeY (i := 17) (d := some 30) (v := ?_) rfl rfl (by kernel_rfl) (by kernel_rfl) (by kernel_rfl) (fun _ _ _ h => h) (by rfl) ?_ ?_
  rotate_left
  · intro W
    go_simp
    with_reducible rfl
  try simp only [Act.put, List.setIfInBounds_toArray, List.set_cons_zero, List.set_cons_succ]
  refine AnyT.takeY (i := 18) (d := some 31) (v := ?_) rfl rfl (by kernel_rfl) (by kernel_rfl) (by kernel_rfl) (fun _ _ _ h => h) (by rfl) ?_ ?_
  rotate_left
  · intro W
    go_simp
    with_reducible rfl
  try simp only [Act.put, List.setIfInBounds_toArray, List.set_cons_zero, List.set_cons_succ]
  refine AnyT.takeS (i := 19) (d := some 32) (v := ?_) rfl rfl (by kernel_rfl) (by kernel_rfl) (by kernel_rfl) (by kernel_rfl) (fun _ _ _ h => h) (by rfl) (by assumption) ?_ ?_
  rotate_left
  · intro W hSw
    try dsimp only at hSw
    go_simp
    with_reducible rfl
  try simp only [Act.put, List.setIfInBounds_toArray, List.set_cons_zero, List.set_cons_succ]
  refine AnyT.takeS (i := 21) (d := some 34) (v := ?_) rfl rfl (by kernel_rfl) (by kernel_rfl) (by kernel_rfl) (by kernel_rfl) (fun _ _ _ h => h) (by rfl) (by assumption) ?_ ?_
  rotate_left
  · intro W hSw
    try dsimp only at hSw
    go_simp
    with_reducible rfl
  try simp only [Act.put, List.setIfInBounds_toArray, List.set_cons_zero, List.set_cons_succ]
  refine AnyT.one (i := 20) rfl (by kernel_rfl) (fun K' hK => ?_)
  go_simp
  go_at_call 8
  refine (HA4.out _ (HT.out _ HBw7.out) HSX.out.1).mono ?_
  rintro e w8 ⟨cs8, rfl, hv8, hb⟩
  have HBw8 := Lib.hid (up_trans HBw7.out hb)
  have HV8 := Lib.hid hv8.ofS
  clear hb hv8 Sw7
  go_wp2_with fail
  refine hK.out _ _ (fun _ _ => HSF.out _ (HBw8.out.mono (by have := HZ2.out; omega))) ?_
  clear hK K'
  try simp only [Act.put, List.setIfInBounds_toArray, List.set_cons_zero, List.set_cons_succ]
  have Sw8 := HSF.out w8 (HBw8.out.mono (by have := HZ2.out; omega))
  refine AnyT.one (i := 22) rfl (by kernel_rfl) (fun K' hK => ?_)
  go_simp
  go_at_call 8
  refine (HB4.out _ (HT.out _ HBw8.out) HSY.out.1).mono ?_
  rintro e w9 ⟨cs9, rfl, hv9, hb⟩
  have HBw9 := Lib.hid (up_trans HBw8.out hb)
  have HV9 := Lib.hid hv9.ofS
  have HV89 := Lib.hid (HV8.out.up hb)
  clear hb hv9 Sw8
  go_wp2_with fail
  refine hK.out _ _ (fun _ _ => HSF.out _ (HBw9.out.mono (by have := HZ2.out; omega))) ?_
  clear hK K'
  try simp only [Act.put, List.setIfInBounds_toArray, List.set_cons_zero, List.set_cons_succ]
  have Sw9 := HSF.out w9 (HBw9.out.mono (by have := HZ2.out; omega))
  refine AnyT.one (i := 23) rfl (by kernel_rfl) (fun K' hK => ?_)
  go_simp
  go_at_call 7
  refine (Same_any (SizeOf.sizeOf (normD 13 x) + 1) (normD 13 x) (normD 13 y) w9 cs8 cs9 (by omega) HV89.out HV9.out).mono ?_
  rintro e w10 ⟨rfl, hb⟩
  have HBw10 := Lib.hid (up_trans HBw9.out hb)
  clear hb Sw9
  by_cases hq : normD 13 x = normD 13 y
  case neg =>
    rw [eqD_false hq]
    go_wp2_with fail
    refine hK.out _ _ (fun _ _ => HSF.out _ (HBw10.out.mono (by have := HZ2.out; omega))) ?_
    clear hK K'
    try simp only [Act.put, List.setIfInBounds_toArray, List.set_cons_zero, List.set_cons_succ]
    have Sw10 := HSF.out w10 (HBw10.out.mono (by have := HZ2.out; omega))
    refine AnyT.takeY (i := 24) (d := some 37) (v := ?_) rfl rfl (by kernel_rfl) (by kernel_rfl) (by kernel_rfl) (fun _ _ _ h => h) (by rfl) ?_ ?_
    rotate_left
    · intro W
      go_simp
      with_reducible rfl
    try simp only [Act.put, List.setIfInBounds_toArray, List.set_cons_zero, List.set_cons_succ]
    refine AnyT.takeY (i := 25) (d := some 38) (v := ?_) rfl rfl (by kernel_rfl) (by kernel_rfl) (by kernel_rfl) (fun _ _ _ h => h) (by rfl) ?_ ?_
    rotate_left
    · intro W
      go_simp
      with_reducible rfl
    try simp only [Act.put, List.setIfInBounds_toArray, List.set_cons_zero, List.set_cons_succ]
    refine AnyT.end (by kernel_rfl) ?_ _
    try simp only [Act.put, List.setIfInBounds_toArray, List.set_cons_zero, List.set_cons_succ]
    go_wp2
    go_ret
    exact ⟨rfl, HT.out _ HBw10.out⟩
  rw [eqD_true hq]
  have HQ := Lib.hid hq
  clear hq
  go_wp2_with fail
  refine hK.out _ _ (fun _ _ => HSF.out _ (HBw10.out.mono (by have := HZ2.out; omega))) ?_
  clear hK K'
  try simp only [Act.put, List.setIfInBounds_toArray, List.set_cons_zero, List.set_cons_succ]
  have Sw10 := HSF.out w10 (HBw10.out.mono (by have := HZ2.out; omega))
  refine AnyT.takeY (i := 24) (d := some 37) (v := ?_) rfl rfl (by kernel_rfl) (by kernel_rfl) (by kernel_rfl) (fun _ _ _ h => h) (by rfl) ?_ ?_
  rotate_left
  · intro W
    go_simp
    with_reducible rfl
  try simp only [Act.put, List.setIfInBounds_toArray, List.set_cons_zero, List.set_cons_succ]
  refine AnyT.takeY (i := 25) (d := some 38) (v := ?_) rfl rfl (by kernel_rfl) (by kernel_rfl) (by kernel_rfl) (fun _ _ _ h => h) (by rfl) ?_ ?_
  rotate_left
  · intro W
    go_simp
    with_reducible rfl
  try simp only [Act.put, List.setIfInBounds_toArray, List.set_cons_zero, List.set_cons_succ]
  refine AnyT.end (by kernel_rfl) ?_ _
  try simp only [Act.put, List.setIfInBounds_toArray, List.set_cons_zero, List.set_cons_succ]
  clear Sw10
  obtain ⟨x0, x1, x2, x3, x4, y0, y1, y2, y3, y4⟩ := HSF.out w10 (HBw10.out.mono (by have := HZ2.out; omega))
  go_wp2_with fail
  go_at_call 9
  refine (HL.out _ (HT.out _ HBw10.out) HSX.out.1 HSY.out.1 ⟨⟨13, HSX.out.2⟩, 12, 12, HSX.out.1, Nat.le_refl _, HDX.out⟩ ⟨⟨13, HSY.out.2⟩, 12, 12, HSY.out.1, Nat.le_refl _, HDY.out⟩ (descr_same 13 [] HSX.out.1 HSY.out.1 ⟨13, HSX.out.2⟩ ⟨13, HSY.out.2⟩ HQ.out)).mono ?_
  rintro e w11 ⟨rfl, hb⟩
  have HBw11 := Lib.hid (up_trans HBw10.out hb)
  clear hb
  go_wp2
  go_ret
  exact ⟨rfl, HT.out _ HBw11.out⟩
end Go.Proofs.YthdnkcofcbinhaaGreatDoor
