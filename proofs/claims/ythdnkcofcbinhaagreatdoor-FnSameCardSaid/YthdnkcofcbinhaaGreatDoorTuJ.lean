/- turned, with Normal. -/
import Derived.Test.YthdnkcofcbinhaaGreatDoorAnJ
import Derived.Test.YthdnkcofcbinhaaGreatDoorIs3J
set_option linter.unusedVariables false
set_option linter.unusedSimpArgs false
namespace Go.Proofs.YthdnkcofcbinhaaGreatDoor
open Go.RowKit

/-- A Value's cells are stored where the result lies. -/
theorem give_va {w w3 w4 : World} {S : Nat → Prop} {v : Dat} {a0 a1 a2 a3 a4 : Value} {rb : Nat} (hS : ∀ k, S k → k < w.heap.size) (h3 : Below w.heap.size w w3) (h4 : Below w3.heap.size w3 w4) (hv : VA (onS w4 fun k => S k ∨ (w3.heap.size ≤ k ∧ k < w4.heap.size)) v [a0, a1, a2, a3, a4])
    (h1 : w.heap.size ≤ rb) (h2 : rb < w3.heap.size) :
    GivesVA S v w (.returned (.agg #[a0, a1, a2, a3, a4])) (((((w4.setCell ⟨rb, 0, none⟩ a0).setCell ⟨rb, 1, none⟩ a1).setCell ⟨rb, 2, none⟩ a2).setCell ⟨rb, 3, none⟩ a3).setCell ⟨rb, 4, none⟩ a4) := by
  refine ⟨[a0, a1, a2, a3, a4], rfl, hv.upS (fun k hk => set5_far ?_ _ _ _ _ _) (fun k hk => hk.imp id fun hk => ⟨Nat.le_trans h3.size hk.1, by rw [set5_size]; exact hk.2⟩), set5_up (up_trans h3 h4) h1 _ _ _ _ _⟩
  rcases hk with hk | hk
  · have := hS k hk
    omega
  · have := hk.1
    omega

def howBlk (hv : Value) : Obj := .cells #[hv] 28 (0, 0)

set_option maxRecDepth 100000 in
set_option maxHeartbeats 8000000 in
theorem turned_norm (f : Dat → Dat) (S : Nat → Prop) (key : ByteArray) (x : Dat) (w : World) (cs : List Value) (hS : ∀ k, S k → k < w.heap.size) (hv : VA (onS w S) x cs) (h60 : x.items.length ≤ 60) (hk60 : x.keys.length ≤ 60)
    (hx : ∀ (W : World) (cs : List Value), Below w.heap.size w W → VA (onS W S) x cs → Calls Tryz.prog 8 #[.agg cs.toArray] W (GivesVA S (f x) W))
    (hN : ∀ i (h : i < x.items.length) (W : World) (cs : List Value), Below w.heap.size w W → VA (onS W S) x.items[i] cs → Calls Tryz.prog 8 #[.agg cs.toArray] W (GivesVA S (f x.items[i]) W)) :
    Calls Tryz.prog 17 #[.string key, .agg cs.toArray, .func (.func 8) #[] #[]] w (GivesVA S (turnD f (shapeN key) x) w) := by
  have HX := Lib.hid (fun W (hb : Below w.heap.size w W) => hx W cs hb (hv.upS (fun k hk => hb.block k (hS k hk)) (fun _ h => h)))
  have HALL := Lib.hid (fun W b0 b1 (hb : Below w.heap.size w W) h0 h1 => all_norm f S x b0 b1 W cs (fun k hk => Nat.lt_of_lt_of_le (hS k hk) hb.size) (hv.upS (fun k hk => hb.block k (hS k hk)) (fun _ h => h)) h0 h1 h60 hk60
    (fun i h W' cs' hb' hv' => hN i h W' cs' (up_trans hb hb') hv'))
  have HV := Lib.hid hv
  obtain ⟨ka, ia, kc, ic, rfl, -⟩ := hv.inv
  have HS := Lib.hid hS
  obtain ⟨n, hn⟩ : ∃ n, shapeN key = n := ⟨_, rfl⟩
  have hle : n ≤ 14 := by rw [← hn]; exact shapeN_le key
  have ES := Lib.hid (fun W => shapeOf_any key W)
  unfold GivesShape at ES
  rw [hn] at ES ⊢
  clear hv hx hN hS hn
  obtain ⟨w3, hw3⟩ : ∃ w3, w3 = ((w.alloc (.cells #[.int .i64 x.kind, .int .i64 x.num, .string x.text, .slice ka x.keys.length kc, .slice ia x.items.length ic] 25 (0, 0))).alloc (howBlk (.func (.func 8) #[] #[]))).alloc zero5v := ⟨_, rfl⟩
  have hmf : ∀ (fn : Fn) (first cap : Array Value) (w : World), (Instr.makeFunc fn first cap).run Tryz.prog w = .ok (.func fn first cap) w := fun _ _ _ _ => rfl
  have hcases : n = 5 ∨ n = 6 ∨ n = 7 ∨ n = 9 ∨ n = 13 ∨ ((n : Int) == 5) = false ∧ ((n : Int) == 6) = false ∧ ((n : Int) == 7) = false ∧ ((n : Int) == 9) = false ∧ ((n : Int) == 13) = false ∧ Hid (n ≠ 5 ∧ n ≠ 6 ∧ n ≠ 7 ∧ n ≠ 9 ∧ n ≠ 13) := by
    by_cases h5 : n = 5
    · exact .inl h5
    by_cases h6 : n = 6
    · exact .inr (.inl h6)
    by_cases h7 : n = 7
    · exact .inr (.inr (.inl h7))
    by_cases h9 : n = 9
    · exact .inr (.inr (.inr (.inl h9)))
    by_cases h13 : n = 13
    · exact .inr (.inr (.inr (.inr (.inl h13))))
    have ne : ∀ m : Int, (n : Int) ≠ m → ((n : Int) == m) = false := fun m h => beq_eq_false_iff_ne.mpr h
    exact .inr (.inr (.inr (.inr (.inr ⟨ne 5 (by omega), ne 6 (by omega), ne 7 (by omega), ne 9 (by omega), ne 13 (by omega), h5, h6, h7, h9, h13⟩))))
  rcases hcases with rfl | rfl | rfl | rfl | rfl | ⟨e5, e6, e7, e9, e13, HNE⟩
  · have et : turnD f 5 x = f x := by simp [turnD]
    rw [et]
    go_enter Tryz.func17, Tryz.ntmps17
    go_wp2_with fail
    go_at_call 16
    refine (ES.out _).mono ?_
    rintro e w1 ⟨rfl, rfl⟩
    go_wp2_with fail
    go_at_call 8
    refine (HX.out _ (up_alloc (up_alloc (up_alloc (Below.refl _ _) _) _) _)).mono ?_
    rintro e w4 ⟨cs4, rfl, hv4, hb4⟩
    obtain ⟨ka4, ia4, kc4, ic4, rfl⟩ := hv4.shape
    have HV4 := Lib.hid hv4
    have HB4 := Lib.hid hb4
    have RB := Lib.hid (show w4.heap[w.heap.size + 1 + 1]? = some zero5v from blk_up (by simpa [zero5v, howBlk] using blk_new ((w.alloc (.cells #[.int .i64 x.kind, .int .i64 x.num, .string x.text, .slice ka x.keys.length kc, .slice ia x.items.length ic] 25 (0, 0))).alloc (howBlk (.func (.func 8) #[] #[]))) zero5v) hb4)
    clear hv4 hb4
    have p0 : w4.frozen? ⟨w.heap.size + 1 + 1, 0, none⟩ = false := blk_frozen RB.out 0
    have p1 : w4.frozen? ⟨w.heap.size + 1 + 1, 1, none⟩ = false := blk_frozen RB.out 1
    have p2 : w4.frozen? ⟨w.heap.size + 1 + 1, 2, none⟩ = false := blk_frozen RB.out 2
    have p3 : w4.frozen? ⟨w.heap.size + 1 + 1, 3, none⟩ = false := blk_frozen RB.out 3
    have p4 : w4.frozen? ⟨w.heap.size + 1 + 1, 4, none⟩ = false := blk_frozen RB.out 4
    have r0 := (blk_cell RB.out 0).trans rfl
    have r1 := (blk_cell RB.out 1).trans rfl
    have r2 := (blk_cell RB.out 2).trans rfl
    have r3 := (blk_cell RB.out 3).trans rfl
    have r4 := (blk_cell RB.out 4).trans rfl
    go_wp2
    refine ret_val rfl rfl rfl (set5 RB.out _ _ _ _ _) ?_
    refine give_va HS.out (up_alloc (up_alloc (up_alloc (Below.refl _ _) _) _) _) HB4.out ?_ (by omega) (by simp)
    exact HV4.out
  · by_cases k5 : x.kind = 5
    · have et : turnD f 6 x = f x := by simp [turnD, k5]
      have e5 : (x.kind == 5) = true := beq_iff_eq.mpr k5
      rw [et]
      clear k5 et
      go_enter Tryz.func17, Tryz.ntmps17
      go_wp2_with fail
      go_at_call 16
      refine (ES.out _).mono ?_
      rintro e w1 ⟨rfl, rfl⟩
      go_wp2_with fail
      go_at_call 8
      refine (HX.out _ (up_alloc (up_alloc (up_alloc (Below.refl _ _) _) _) _)).mono ?_
      rintro e w4 ⟨cs4, rfl, hv4, hb4⟩
      obtain ⟨ka4, ia4, kc4, ic4, rfl⟩ := hv4.shape
      have HV4 := Lib.hid hv4
      have HB4 := Lib.hid hb4
      have RB := Lib.hid (show w4.heap[w.heap.size + 1 + 1]? = some zero5v from blk_up (by simpa [zero5v, howBlk] using blk_new ((w.alloc (.cells #[.int .i64 x.kind, .int .i64 x.num, .string x.text, .slice ka x.keys.length kc, .slice ia x.items.length ic] 25 (0, 0))).alloc (howBlk (.func (.func 8) #[] #[]))) zero5v) hb4)
      clear hv4 hb4
      have p0 : w4.frozen? ⟨w.heap.size + 1 + 1, 0, none⟩ = false := blk_frozen RB.out 0
      have p1 : w4.frozen? ⟨w.heap.size + 1 + 1, 1, none⟩ = false := blk_frozen RB.out 1
      have p2 : w4.frozen? ⟨w.heap.size + 1 + 1, 2, none⟩ = false := blk_frozen RB.out 2
      have p3 : w4.frozen? ⟨w.heap.size + 1 + 1, 3, none⟩ = false := blk_frozen RB.out 3
      have p4 : w4.frozen? ⟨w.heap.size + 1 + 1, 4, none⟩ = false := blk_frozen RB.out 4
      have r0 := (blk_cell RB.out 0).trans rfl
      have r1 := (blk_cell RB.out 1).trans rfl
      have r2 := (blk_cell RB.out 2).trans rfl
      have r3 := (blk_cell RB.out 3).trans rfl
      have r4 := (blk_cell RB.out 4).trans rfl
      go_wp2
      refine ret_val rfl rfl rfl (set5 RB.out _ _ _ _ _) ?_
      refine give_va HS.out (up_alloc (up_alloc (up_alloc (Below.refl _ _) _) _) _) HB4.out ?_ (by omega) (by simp)
      exact HV4.out
    · have et : turnD f 6 x = x := by simp [turnD, k5]
      have e5 : (x.kind == 5) = false := beq_eq_false_iff_ne.mpr k5
      rw [et]
      clear k5 et
      go_enter Tryz.func17, Tryz.ntmps17
      go_wp2_with fail
      go_at_call 16
      refine (ES.out _).mono ?_
      rintro e w1 ⟨rfl, rfl⟩
      go_wp2
      refine ret_val rfl rfl rfl (by simpa using blk_new ((w.alloc (.cells #[.int .i64 x.kind, .int .i64 x.num, .string x.text, .slice ka x.keys.length kc, .slice ia x.items.length ic] 25 (0, 0))).alloc (.cells #[.func (.func 8) #[] #[]] 28 (0, 0))) (.cells #[.int .i64 x.kind, .int .i64 x.num, .string x.text, .slice ka x.keys.length kc, .slice ia x.items.length ic] 25 (0, 0))) ?_
      have hup := up_alloc (up_alloc (up_alloc (Below.refl w.heap.size w) (.cells #[.int .i64 x.kind, .int .i64 x.num, .string x.text, .slice ka x.keys.length kc, .slice ia x.items.length ic] 25 (0, 0))) (.cells #[.func (.func 8) #[] #[]] 28 (0, 0))) (.cells #[.int .i64 x.kind, .int .i64 x.num, .string x.text, .slice ka x.keys.length kc, .slice ia x.items.length ic] 25 (0, 0))
      exact ⟨_, rfl, HV.out.upS (fun k hk => hup.block k (HS.out k hk)) (fun k hk => .inl hk), hup⟩
  · by_cases k5 : x.kind = 5
    · have et : turnD f 7 x = f x := by simp [turnD, k5]
      have e5 : (x.kind == 5) = true := beq_iff_eq.mpr k5
      rw [et]
      clear k5 et
      go_enter Tryz.func17, Tryz.ntmps17
      go_wp2_with fail
      go_at_call 16
      refine (ES.out _).mono ?_
      rintro e w1 ⟨rfl, rfl⟩
      go_wp2_with fail
      go_at_call 8
      refine (HX.out _ (up_alloc (up_alloc (up_alloc (Below.refl _ _) _) _) _)).mono ?_
      rintro e w4 ⟨cs4, rfl, hv4, hb4⟩
      obtain ⟨ka4, ia4, kc4, ic4, rfl⟩ := hv4.shape
      have HV4 := Lib.hid hv4
      have HB4 := Lib.hid hb4
      have RB := Lib.hid (show w4.heap[w.heap.size + 1 + 1]? = some zero5v from blk_up (by simpa [zero5v, howBlk] using blk_new ((w.alloc (.cells #[.int .i64 x.kind, .int .i64 x.num, .string x.text, .slice ka x.keys.length kc, .slice ia x.items.length ic] 25 (0, 0))).alloc (howBlk (.func (.func 8) #[] #[]))) zero5v) hb4)
      clear hv4 hb4
      have p0 : w4.frozen? ⟨w.heap.size + 1 + 1, 0, none⟩ = false := blk_frozen RB.out 0
      have p1 : w4.frozen? ⟨w.heap.size + 1 + 1, 1, none⟩ = false := blk_frozen RB.out 1
      have p2 : w4.frozen? ⟨w.heap.size + 1 + 1, 2, none⟩ = false := blk_frozen RB.out 2
      have p3 : w4.frozen? ⟨w.heap.size + 1 + 1, 3, none⟩ = false := blk_frozen RB.out 3
      have p4 : w4.frozen? ⟨w.heap.size + 1 + 1, 4, none⟩ = false := blk_frozen RB.out 4
      have r0 := (blk_cell RB.out 0).trans rfl
      have r1 := (blk_cell RB.out 1).trans rfl
      have r2 := (blk_cell RB.out 2).trans rfl
      have r3 := (blk_cell RB.out 3).trans rfl
      have r4 := (blk_cell RB.out 4).trans rfl
      go_wp2
      refine ret_val rfl rfl rfl (set5 RB.out _ _ _ _ _) ?_
      refine give_va HS.out (up_alloc (up_alloc (up_alloc (Below.refl _ _) _) _) _) HB4.out ?_ (by omega) (by simp)
      exact HV4.out
    · have et : turnD f 7 x = allD f x := by simp [turnD, k5]
      have e5 : (x.kind == 5) = false := beq_eq_false_iff_ne.mpr k5
      rw [et]
      clear k5 et
      go_enter Tryz.func17, Tryz.ntmps17
      go_wp2_with fail
      go_at_call 16
      refine (ES.out _).mono ?_
      rintro e w1 ⟨rfl, rfl⟩
      go_wp2_with fail
      go_at_call 25
      refine (HALL.out _ _ _ (up_alloc (up_alloc (up_alloc (Below.refl _ _) _) _) _) (blk_up (blk_new w _) (up_alloc (up_alloc (Below.refl _ _) _) _)) (blk_up (by simpa [howBlk] using blk_new (w.alloc (.cells #[.int .i64 x.kind, .int .i64 x.num, .string x.text, .slice ka x.keys.length kc, .slice ia x.items.length ic] 25 (0, 0))) (howBlk (.func (.func 8) #[] #[]))) (up_alloc (Below.refl _ _) _))).mono ?_
      rintro e w4 ⟨cs4, rfl, hv4, hb4⟩
      obtain ⟨ka4, ia4, kc4, ic4, rfl⟩ := hv4.shape
      have HV4 := Lib.hid hv4
      have HB4 := Lib.hid hb4
      have RB := Lib.hid (show w4.heap[w.heap.size + 1 + 1]? = some zero5v from blk_up (by simpa [zero5v, howBlk] using blk_new ((w.alloc (.cells #[.int .i64 x.kind, .int .i64 x.num, .string x.text, .slice ka x.keys.length kc, .slice ia x.items.length ic] 25 (0, 0))).alloc (howBlk (.func (.func 8) #[] #[]))) zero5v) hb4)
      clear hv4 hb4
      have p0 : w4.frozen? ⟨w.heap.size + 1 + 1, 0, none⟩ = false := blk_frozen RB.out 0
      have p1 : w4.frozen? ⟨w.heap.size + 1 + 1, 1, none⟩ = false := blk_frozen RB.out 1
      have p2 : w4.frozen? ⟨w.heap.size + 1 + 1, 2, none⟩ = false := blk_frozen RB.out 2
      have p3 : w4.frozen? ⟨w.heap.size + 1 + 1, 3, none⟩ = false := blk_frozen RB.out 3
      have p4 : w4.frozen? ⟨w.heap.size + 1 + 1, 4, none⟩ = false := blk_frozen RB.out 4
      have r0 := (blk_cell RB.out 0).trans rfl
      have r1 := (blk_cell RB.out 1).trans rfl
      have r2 := (blk_cell RB.out 2).trans rfl
      have r3 := (blk_cell RB.out 3).trans rfl
      have r4 := (blk_cell RB.out 4).trans rfl
      go_wp2
      refine ret_val rfl rfl rfl (set5 RB.out _ _ _ _ _) ?_
      refine give_va HS.out (up_alloc (up_alloc (up_alloc (Below.refl _ _) _) _) _) HB4.out ?_ (by omega) (by simp)
      exact HV4.out
  · have et : turnD f 9 x = allD f x := by simp [turnD]
    rw [et]
    clear et
    go_enter Tryz.func17, Tryz.ntmps17
    go_wp2_with fail
    go_at_call 16
    refine (ES.out _).mono ?_
    rintro e w1 ⟨rfl, rfl⟩
    go_wp2_with fail
    go_at_call 25
    refine (HALL.out _ _ _ (up_alloc (up_alloc (up_alloc (Below.refl _ _) _) _) _) (blk_up (blk_new w _) (up_alloc (up_alloc (Below.refl _ _) _) _)) (blk_up (by simpa [howBlk] using blk_new (w.alloc (.cells #[.int .i64 x.kind, .int .i64 x.num, .string x.text, .slice ka x.keys.length kc, .slice ia x.items.length ic] 25 (0, 0))) (howBlk (.func (.func 8) #[] #[]))) (up_alloc (Below.refl _ _) _))).mono ?_
    rintro e w4 ⟨cs4, rfl, hv4, hb4⟩
    obtain ⟨ka4, ia4, kc4, ic4, rfl⟩ := hv4.shape
    have HV4 := Lib.hid hv4
    have HB4 := Lib.hid hb4
    have RB := Lib.hid (show w4.heap[w.heap.size + 1 + 1]? = some zero5v from blk_up (by simpa [zero5v, howBlk] using blk_new ((w.alloc (.cells #[.int .i64 x.kind, .int .i64 x.num, .string x.text, .slice ka x.keys.length kc, .slice ia x.items.length ic] 25 (0, 0))).alloc (howBlk (.func (.func 8) #[] #[]))) zero5v) hb4)
    clear hv4 hb4
    have p0 : w4.frozen? ⟨w.heap.size + 1 + 1, 0, none⟩ = false := blk_frozen RB.out 0
    have p1 : w4.frozen? ⟨w.heap.size + 1 + 1, 1, none⟩ = false := blk_frozen RB.out 1
    have p2 : w4.frozen? ⟨w.heap.size + 1 + 1, 2, none⟩ = false := blk_frozen RB.out 2
    have p3 : w4.frozen? ⟨w.heap.size + 1 + 1, 3, none⟩ = false := blk_frozen RB.out 3
    have p4 : w4.frozen? ⟨w.heap.size + 1 + 1, 4, none⟩ = false := blk_frozen RB.out 4
    have r0 := (blk_cell RB.out 0).trans rfl
    have r1 := (blk_cell RB.out 1).trans rfl
    have r2 := (blk_cell RB.out 2).trans rfl
    have r3 := (blk_cell RB.out 3).trans rfl
    have r4 := (blk_cell RB.out 4).trans rfl
    go_wp2
    refine ret_val rfl rfl rfl (set5 RB.out _ _ _ _ _) ?_
    refine give_va HS.out (up_alloc (up_alloc (up_alloc (Below.refl _ _) _) _) _) HB4.out ?_ (by omega) (by simp)
    exact HV4.out
  · have et : turnD f 13 x = allD f x := by simp [turnD]
    rw [et]
    clear et
    go_enter Tryz.func17, Tryz.ntmps17
    go_wp2_with fail
    go_at_call 16
    refine (ES.out _).mono ?_
    rintro e w1 ⟨rfl, rfl⟩
    go_wp2_with fail
    go_at_call 25
    refine (HALL.out _ _ _ (up_alloc (up_alloc (up_alloc (Below.refl _ _) _) _) _) (blk_up (blk_new w _) (up_alloc (up_alloc (Below.refl _ _) _) _)) (blk_up (by simpa [howBlk] using blk_new (w.alloc (.cells #[.int .i64 x.kind, .int .i64 x.num, .string x.text, .slice ka x.keys.length kc, .slice ia x.items.length ic] 25 (0, 0))) (howBlk (.func (.func 8) #[] #[]))) (up_alloc (Below.refl _ _) _))).mono ?_
    rintro e w4 ⟨cs4, rfl, hv4, hb4⟩
    obtain ⟨ka4, ia4, kc4, ic4, rfl⟩ := hv4.shape
    have HV4 := Lib.hid hv4
    have HB4 := Lib.hid hb4
    have RB := Lib.hid (show w4.heap[w.heap.size + 1 + 1]? = some zero5v from blk_up (by simpa [zero5v, howBlk] using blk_new ((w.alloc (.cells #[.int .i64 x.kind, .int .i64 x.num, .string x.text, .slice ka x.keys.length kc, .slice ia x.items.length ic] 25 (0, 0))).alloc (howBlk (.func (.func 8) #[] #[]))) zero5v) hb4)
    clear hv4 hb4
    have p0 : w4.frozen? ⟨w.heap.size + 1 + 1, 0, none⟩ = false := blk_frozen RB.out 0
    have p1 : w4.frozen? ⟨w.heap.size + 1 + 1, 1, none⟩ = false := blk_frozen RB.out 1
    have p2 : w4.frozen? ⟨w.heap.size + 1 + 1, 2, none⟩ = false := blk_frozen RB.out 2
    have p3 : w4.frozen? ⟨w.heap.size + 1 + 1, 3, none⟩ = false := blk_frozen RB.out 3
    have p4 : w4.frozen? ⟨w.heap.size + 1 + 1, 4, none⟩ = false := blk_frozen RB.out 4
    have r0 := (blk_cell RB.out 0).trans rfl
    have r1 := (blk_cell RB.out 1).trans rfl
    have r2 := (blk_cell RB.out 2).trans rfl
    have r3 := (blk_cell RB.out 3).trans rfl
    have r4 := (blk_cell RB.out 4).trans rfl
    go_wp2
    refine ret_val rfl rfl rfl (set5 RB.out _ _ _ _ _) ?_
    refine give_va HS.out (up_alloc (up_alloc (up_alloc (Below.refl _ _) _) _) _) HB4.out ?_ (by omega) (by simp)
    exact HV4.out
  · have et : turnD f n x = x := by
      have h := HNE.out
      simp [turnD, h]
    rw [et]
    clear et
    go_enter Tryz.func17, Tryz.ntmps17
    go_wp2_with fail
    go_at_call 16
    refine (ES.out _).mono ?_
    rintro e w1 ⟨rfl, rfl⟩
    go_wp2
    refine ret_val rfl rfl rfl (by simpa using blk_new ((w.alloc (.cells #[.int .i64 x.kind, .int .i64 x.num, .string x.text, .slice ka x.keys.length kc, .slice ia x.items.length ic] 25 (0, 0))).alloc (.cells #[.func (.func 8) #[] #[]] 28 (0, 0))) (.cells #[.int .i64 x.kind, .int .i64 x.num, .string x.text, .slice ka x.keys.length kc, .slice ia x.items.length ic] 25 (0, 0))) ?_
    have hup := up_alloc (up_alloc (up_alloc (Below.refl w.heap.size w) (.cells #[.int .i64 x.kind, .int .i64 x.num, .string x.text, .slice ka x.keys.length kc, .slice ia x.items.length ic] 25 (0, 0))) (.cells #[.func (.func 8) #[] #[]] 28 (0, 0))) (.cells #[.int .i64 x.kind, .int .i64 x.num, .string x.text, .slice ka x.keys.length kc, .slice ia x.items.length ic] 25 (0, 0))
    exact ⟨_, rfl, HV.out.upS (fun k hk => hup.block k (HS.out k hk)) (fun k hk => .inl hk), hup⟩
end Go.Proofs.YthdnkcofcbinhaaGreatDoor
