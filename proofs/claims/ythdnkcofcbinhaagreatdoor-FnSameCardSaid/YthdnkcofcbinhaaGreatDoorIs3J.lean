/- The reference's fits, isShape, IsSchema. -/
import Derived.Test.YthdnkcofcbinhaaGreatDoorGd1J
import Derived.Test.YthdnkcofcbinhaaGreatDoorIs2J
set_option linter.unusedVariables false
set_option linter.unusedSimpArgs false
namespace Go.Proofs.YthdnkcofcbinhaaGreatDoor
open Go.RowKit

theorem shapeIn_le {k : ByteArray} {m : Nat} : ∀ (l : List (ByteArray × Nat × Nat)), (∀ x ∈ l, x.2.1 ≤ m) → shapeIn k l ≤ m
  | [], _ => Nat.zero_le _
  | x :: r, h => by
    unfold shapeIn
    split
    · exact h x (List.mem_cons_self ..)
    · exact shapeIn_le r (fun y hy => h y (List.mem_cons_of_mem _ hy))
theorem shapeN_le (k : ByteArray) : shapeN k ≤ 14 := shapeIn_le kws (by unfold kws; decide)

theorem fits1_any (v : Dat) (w : World) (cs : List Value) (hv : VA w v cs) : Calls Tryz.prog 32 #[.agg cs.toArray] w (SomeBool (v.kind = 4 ∧ ∀ j (h : j < v.items.length), v.items[j].kind = 3) w) := by
  have HE := Lib.hid (fun W (hb : Below w.heap.size w W) => each_text (fun x => x.kind = 3) v 4 W cs (hv.up hb) (fun i h W' cs' hv' => (isText_any _ W' cs' hv').mono fun e w' he => SomeBool.of he (fun hb => by simpa using hb)))
  obtain ⟨ka, ia, kc, ic, rfl, -⟩ := hv.inv
  clear hv
  go_enter Tryz.func32, Tryz.ntmps32
  go_wp2_with fail
  go_at_call 31
  refine (HE.out _ (up_alloc (Below.refl _ _) _)).mono ?_
  rintro e w1 ⟨b, rfl, hp, hb⟩
  have HB := Lib.hid (up_trans (up_alloc (Below.refl _ _) _) hb)
  have HP := Lib.hid hp
  clear hp hb
  go_wp2
  go_ret
  exact ⟨b, rfl, HP.out, HB.out⟩

theorem fits2_any (v : Dat) (w : World) (cs : List Value) (hv : VA w v cs) : Calls Tryz.prog 33 #[.agg cs.toArray] w (SomeBool (v.kind = 3 ∨ v.kind = 1) w) := by
  have HE := Lib.hid (fun W (hb : Below w.heap.size w W) => isText_any v W cs (hv.up hb))
  obtain ⟨ka, ia, kc, ic, rfl, -⟩ := hv.inv
  clear hv
  rcases eq_or v.kind 3 with ⟨b1, b2⟩ | ⟨b1, b2⟩
  all_goals
    have B1 := Lib.hid b1
    rw [b1] at HE
    clear b1 b2
    go_enter Tryz.func33, Tryz.ntmps33
    go_wp2_with fail
    go_at_call 30
    refine (HE.out _ (up_alloc (Below.refl _ _) _)).mono ?_
    rintro e w1 ⟨rfl, hb⟩
    have HB := Lib.hid (up_trans (up_alloc (Below.refl _ _) _) hb)
    have q0 : w1.cell? ⟨w.heap.size, 0, none⟩ = some (.int .i64 v.kind) := (blk_cell (blk_up (blk_new w _) hb) 0).trans rfl
    clear hb
  · go_wp2
    go_ret
    exact ⟨true, rfl, fun _ => .inl (by simpa using B1.out), HB.out⟩
  · go_wp2
    go_ret
    exact ⟨v.kind == 1, rfl, fun h => .inr (by simpa using h), HB.out⟩

set_option maxRecDepth 100000 in
set_option maxHeartbeats 4000000 in
theorem fits_any (P : Dat → Prop) (key : ByteArray) (v : Dat) (w : World) (cs : List Value) (hv : VA w v cs)
    (hP : ∀ (W : World) (cs' : List Value), VA W v cs' → Calls Tryz.prog 12 #[.agg cs'.toArray] W (SomeBool (P v) W))
    (hI : ∀ i (h : i < v.items.length) (W : World) (cs' : List Value), VA W v.items[i] cs' → Calls Tryz.prog 12 #[.agg cs'.toArray] W (SomeBool (P v.items[i]) W)) :
    Calls Tryz.prog 22 #[.string key, .agg cs.toArray] w (SomeBool (FitN P (shapeN key) v) w) := by
  have E1 := Lib.hid (fun W (hb : Below w.heap.size w W) => isText_any v W cs (hv.up hb))
  have E2 := Lib.hid (fun W (hb : Below w.heap.size w W) => hP W cs (hv.up hb))
  have E3 := Lib.hid (fun (kd : Int) W (hb : Below w.heap.size w W) => each_text (fun x => x.kind = 3) v kd W cs (hv.up hb) (fun i h W' cs' hv' => (isText_any _ W' cs' hv').mono fun e w' he => SomeBool.of he (fun hb => by simpa using hb)))
  have E4 := Lib.hid (fun (kd : Int) W (hb : Below w.heap.size w W) => each_shape P v kd W cs (hv.up hb) hI)
  have E5 := Lib.hid (fun (kd : Int) W (hb : Below w.heap.size w W) => each_texts (fun x => x.kind = 4 ∧ ∀ j (h : j < x.items.length), x.items[j].kind = 3) v kd W cs (hv.up hb) (fun i h W' cs' hv' => fits1_any _ W' cs' hv'))
  have E6 := Lib.hid (fun (kd : Int) W (hb : Below w.heap.size w W) => each_enum (fun x => x.kind = 3 ∨ x.kind = 1) v kd W cs (hv.up hb) (fun i h W' cs' hv' => fits2_any _ W' cs' hv'))
  obtain ⟨ka, ia, kc, ic, rfl, -⟩ := hv.inv
  have hN : ∃ n, shapeN key = n := ⟨_, rfl⟩
  obtain ⟨n, hn⟩ := hN
  have hle : n ≤ 14 := by rw [← hn]; exact shapeN_le key
  have ES := Lib.hid (fun W => shapeOf_any key W)
  unfold GivesShape at ES
  rw [hn] at ES ⊢
  clear hv hP hI hn
  have hcases : n = 1 ∨ n = 2 ∨ n = 3 ∨ n = 4 ∨ n = 5 ∨ n = 6 ∨ n = 7 ∨ n = 8 ∨ n = 9 ∨ n = 10 ∨ n = 11 ∨ n = 12 ∨ n = 13 ∨ n = 0 ∨ n = 14 := by omega
  rcases hcases with rfl | rfl | rfl | rfl | rfl | rfl | rfl | rfl | rfl | rfl | rfl | rfl | rfl | rfl | rfl
  · skip
    go_enter Tryz.func22, Tryz.ntmps22
    go_wp2_with fail
    go_at_call 16
    refine (ES.out _).mono ?_
    rintro e w1 ⟨rfl, rfl⟩
    go_wp2_with fail
    go_at_call 30
    refine (E1.out _ (up_alloc (Below.refl _ _) _)).mono ?_
    rintro e w1 ⟨rfl, hb⟩
    have HB := Lib.hid (up_trans (up_alloc (Below.refl _ _) _) hb)
    clear hb
    go_wp2
    go_ret
    exact ⟨_, rfl, fun h => by simpa [FitN] using h, HB.out⟩
  · skip
    go_enter Tryz.func22, Tryz.ntmps22
    go_wp2_with fail
    go_at_call 16
    refine (ES.out _).mono ?_
    rintro e w1 ⟨rfl, rfl⟩
    go_wp2
    go_ret
    exact ⟨_, rfl, fun h => by simpa [FitN] using h, up_alloc (Below.refl _ _) _⟩
  · rcases eq_or v.kind 2 with ⟨b1, b2⟩ | ⟨b1, b2⟩
    · have B1 := Lib.hid b1
      go_enter Tryz.func22, Tryz.ntmps22
      go_wp2_with fail
      go_at_call 16
      refine (ES.out _).mono ?_
      rintro e w1 ⟨rfl, rfl⟩
      go_wp2
      go_ret
      exact ⟨_, rfl, fun _ => .inl (by simpa using B1.out), up_alloc (Below.refl _ _) _⟩
    · skip
      go_enter Tryz.func22, Tryz.ntmps22
      go_wp2_with fail
      go_at_call 16
      refine (ES.out _).mono ?_
      rintro e w1 ⟨rfl, rfl⟩
      go_wp2
      go_ret
      exact ⟨_, rfl, fun h => .inr (by simpa using h), up_alloc (Below.refl _ _) _⟩
  · rcases eq_or v.kind 2 with ⟨b1, b2⟩ | ⟨b1, b2⟩
    · have B1 := Lib.hid b1
      go_enter Tryz.func22, Tryz.ntmps22
      go_wp2_with fail
      go_at_call 16
      refine (ES.out _).mono ?_
      rintro e w1 ⟨rfl, rfl⟩
      go_wp2
      go_ret
      exact ⟨_, rfl, fun h => ⟨by simpa using B1.out, by simpa using h⟩, up_alloc (Below.refl _ _) _⟩
    · skip
      go_enter Tryz.func22, Tryz.ntmps22
      go_wp2_with fail
      go_at_call 16
      refine (ES.out _).mono ?_
      rintro e w1 ⟨rfl, rfl⟩
      go_wp2
      go_ret
      exact ⟨_, rfl, fun h => by simp at h, up_alloc (Below.refl _ _) _⟩
  · skip
    go_enter Tryz.func22, Tryz.ntmps22
    go_wp2_with fail
    go_at_call 16
    refine (ES.out _).mono ?_
    rintro e w1 ⟨rfl, rfl⟩
    go_wp2_with fail
    go_at_call 12
    refine (E2.out _ (up_alloc (Below.refl _ _) _)).mono ?_
    rintro e w1 ⟨b, rfl, hp, hb⟩
    have HB := Lib.hid (up_trans (up_alloc (Below.refl _ _) _) hb)
    have HP := Lib.hid hp
    clear hp hb
    go_wp2
    go_ret
    exact ⟨b, rfl, HP.out, HB.out⟩
  · rcases eq_or v.kind 1 with ⟨b1, b2⟩ | ⟨b1, b2⟩
    · have B1 := Lib.hid b1
      go_enter Tryz.func22, Tryz.ntmps22
      go_wp2_with fail
      go_at_call 16
      refine (ES.out _).mono ?_
      rintro e w1 ⟨rfl, rfl⟩
      go_wp2
      go_ret
      exact ⟨_, rfl, fun _ => .inl (by simpa using B1.out), up_alloc (Below.refl _ _) _⟩
    · skip
      go_enter Tryz.func22, Tryz.ntmps22
      go_wp2_with fail
      go_at_call 16
      refine (ES.out _).mono ?_
      rintro e w1 ⟨rfl, rfl⟩
      go_wp2_with fail
      go_at_call 12
      refine (E2.out _ (up_alloc (Below.refl _ _) _)).mono ?_
      rintro e w1 ⟨b, rfl, hp, hb⟩
      have HB := Lib.hid (up_trans (up_alloc (Below.refl _ _) _) hb)
      have HP := Lib.hid hp
      clear hp hb
      go_wp2
      go_ret
      exact ⟨b, rfl, fun h => .inr (HP.out h), HB.out⟩
  · skip
    go_enter Tryz.func22, Tryz.ntmps22
    go_wp2_with fail
    go_at_call 16
    refine (ES.out _).mono ?_
    rintro e w1 ⟨rfl, rfl⟩
    go_wp2_with fail
    go_at_call 12
    refine (E2.out _ (up_alloc (Below.refl _ _) _)).mono ?_
    rintro e w1 ⟨b, rfl, hp, hb⟩
    have HB := Lib.hid (up_trans (up_alloc (Below.refl _ _) _) hb)
    have HX := Lib.hid (blk_up (blk_new w _) hb)
    have HP := Lib.hid hp
    clear hp hb
    have q0 : w1.cell? ⟨w.heap.size, 0, none⟩ = some (.int .i64 v.kind) := (blk_cell HX.out 0).trans rfl
    have q1 : w1.cell? ⟨w.heap.size, 1, none⟩ = some (.int .i64 v.num) := (blk_cell HX.out 1).trans rfl
    have q2 : w1.cell? ⟨w.heap.size, 2, none⟩ = some (.string v.text) := (blk_cell HX.out 2).trans rfl
    have q3 : w1.cell? ⟨w.heap.size, 3, none⟩ = some (.slice ka v.keys.length kc) := (blk_cell HX.out 3).trans rfl
    have q4 : w1.cell? ⟨w.heap.size, 4, none⟩ = some (.slice ia v.items.length ic) := (blk_cell HX.out 4).trans rfl
    cases b
    · go_wp2_with fail
      go_at_call 31
      refine (E4.out 4 _ HB.out).mono ?_
      rintro e w2 ⟨b, rfl, hp, hb⟩
      have HB2 := Lib.hid (up_trans HB.out hb)
      have HP2 := Lib.hid hp
      clear hp hb
      go_wp2
      go_ret
      exact ⟨b, rfl, fun h => .inr (HP2.out h), HB2.out⟩
    · go_wp2
      go_ret
      exact ⟨true, rfl, fun _ => .inl (HP.out trivial), HB.out⟩
  · skip
    go_enter Tryz.func22, Tryz.ntmps22
    go_wp2_with fail
    go_at_call 16
    refine (ES.out _).mono ?_
    rintro e w1 ⟨rfl, rfl⟩
    go_wp2_with fail
    go_at_call 31
    refine (E3.out 4 _ (up_alloc (Below.refl _ _) _)).mono ?_
    rintro e w1 ⟨b, rfl, hp, hb⟩
    have HB := Lib.hid (up_trans (up_alloc (Below.refl _ _) _) hb)
    have HP := Lib.hid hp
    clear hp hb
    go_wp2
    go_ret
    exact ⟨b, rfl, HP.out, HB.out⟩
  · skip
    go_enter Tryz.func22, Tryz.ntmps22
    go_wp2_with fail
    go_at_call 16
    refine (ES.out _).mono ?_
    rintro e w1 ⟨rfl, rfl⟩
    go_wp2_with fail
    go_at_call 31
    refine (E4.out 5 _ (up_alloc (Below.refl _ _) _)).mono ?_
    rintro e w1 ⟨b, rfl, hp, hb⟩
    have HB := Lib.hid (up_trans (up_alloc (Below.refl _ _) _) hb)
    have HP := Lib.hid hp
    clear hp hb
    go_wp2
    go_ret
    exact ⟨b, rfl, HP.out, HB.out⟩
  · skip
    go_enter Tryz.func22, Tryz.ntmps22
    go_wp2_with fail
    go_at_call 16
    refine (ES.out _).mono ?_
    rintro e w1 ⟨rfl, rfl⟩
    go_wp2_with fail
    go_at_call 31
    refine (E5.out 5 _ (up_alloc (Below.refl _ _) _)).mono ?_
    rintro e w1 ⟨b, rfl, hp, hb⟩
    have HB := Lib.hid (up_trans (up_alloc (Below.refl _ _) _) hb)
    have HP := Lib.hid hp
    clear hp hb
    go_wp2
    go_ret
    exact ⟨b, rfl, HP.out, HB.out⟩
  · skip
    go_enter Tryz.func22, Tryz.ntmps22
    go_wp2_with fail
    go_at_call 16
    refine (ES.out _).mono ?_
    rintro e w1 ⟨rfl, rfl⟩
    go_wp2_with fail
    go_at_call 31
    refine (E6.out 4 _ (up_alloc (Below.refl _ _) _)).mono ?_
    rintro e w1 ⟨b, rfl, hp, hb⟩
    have HB := Lib.hid (up_trans (up_alloc (Below.refl _ _) _) hb)
    have HP := Lib.hid hp
    clear hp hb
    go_wp2
    go_ret
    exact ⟨b, rfl, HP.out, HB.out⟩
  · have E1' := Lib.hid (fun W (hb : Below w.heap.size w W) => (E1.out W hb).mono fun e w' he => SomeBool.of (p := v.kind = 3) he (fun hb => by simpa using hb))
    go_enter Tryz.func22, Tryz.ntmps22
    go_wp2_with fail
    go_at_call 16
    refine (ES.out _).mono ?_
    rintro e w1 ⟨rfl, rfl⟩
    go_wp2_with fail
    go_at_call 30
    refine (E1'.out _ (up_alloc (Below.refl _ _) _)).mono ?_
    rintro e w1 ⟨b, rfl, hp, hb⟩
    have HB := Lib.hid (up_trans (up_alloc (Below.refl _ _) _) hb)
    have HX := Lib.hid (blk_up (blk_new w _) hb)
    have HP := Lib.hid hp
    clear hp hb
    have q0 : w1.cell? ⟨w.heap.size, 0, none⟩ = some (.int .i64 v.kind) := (blk_cell HX.out 0).trans rfl
    have q1 : w1.cell? ⟨w.heap.size, 1, none⟩ = some (.int .i64 v.num) := (blk_cell HX.out 1).trans rfl
    have q2 : w1.cell? ⟨w.heap.size, 2, none⟩ = some (.string v.text) := (blk_cell HX.out 2).trans rfl
    have q3 : w1.cell? ⟨w.heap.size, 3, none⟩ = some (.slice ka v.keys.length kc) := (blk_cell HX.out 3).trans rfl
    have q4 : w1.cell? ⟨w.heap.size, 4, none⟩ = some (.slice ia v.items.length ic) := (blk_cell HX.out 4).trans rfl
    cases b
    · go_wp2_with fail
      go_at_call 31
      refine (E3.out 4 _ HB.out).mono ?_
      rintro e w2 ⟨b, rfl, hp, hb⟩
      have HB2 := Lib.hid (up_trans HB.out hb)
      have HP2 := Lib.hid hp
      clear hp hb
      go_wp2
      go_ret
      exact ⟨b, rfl, fun h => .inr (HP2.out h), HB2.out⟩
    · go_wp2
      go_ret
      exact ⟨true, rfl, fun _ => .inl (HP.out trivial), HB.out⟩
  · skip
    go_enter Tryz.func22, Tryz.ntmps22
    go_wp2_with fail
    go_at_call 16
    refine (ES.out _).mono ?_
    rintro e w1 ⟨rfl, rfl⟩
    go_wp2_with fail
    go_at_call 31
    refine (E4.out 4 _ (up_alloc (Below.refl _ _) _)).mono ?_
    rintro e w1 ⟨b, rfl, hp, hb⟩
    have HB := Lib.hid (up_trans (up_alloc (Below.refl _ _) _) hb)
    have HP := Lib.hid hp
    clear hp hb
    go_wp2
    go_ret
    exact ⟨b, rfl, HP.out, HB.out⟩
  · skip
    go_enter Tryz.func22, Tryz.ntmps22
    go_wp2_with fail
    go_at_call 16
    refine (ES.out _).mono ?_
    rintro e w1 ⟨rfl, rfl⟩
    go_wp2
    go_ret
    exact ⟨_, rfl, fun _ => trivial, up_alloc (Below.refl _ _) _⟩
  · skip
    go_enter Tryz.func22, Tryz.ntmps22
    go_wp2_with fail
    go_at_call 16
    refine (ES.out _).mono ?_
    rintro e w1 ⟨rfl, rfl⟩
    go_wp2
    go_ret
    exact ⟨_, rfl, fun _ => trivial, up_alloc (Below.refl _ _) _⟩
end Go.Proofs.YthdnkcofcbinhaaGreatDoor
