/- turned, with the function that adds to kids' list; kids. -/
import Derived.Test.YthdnkcofcbinhaaGreatDoorAkJ
import Derived.Test.YthdnkcofcbinhaaGreatDoorNmJ
set_option linter.unusedVariables false
set_option linter.unusedSimpArgs false
namespace Go.Proofs.YthdnkcofcbinhaaGreatDoor
open Go.RowKit

/-- A Value's cells are stored where the result lies. -/
theorem kid_out {B o : Nat} {l l' : List Dat} {cv cv' : Value} {css css' : List (List Value)} {w w3 w4 : World} {rb : Nat} {k0 n0 : Int} {t0 : ByteArray} {a0 b0 : Option Addr} {la lb ca cb : Nat} (hK : KInv B o l cv css w) (h3 : Below w.heap.size w w3) (hK4 : KInv B o l' cv' css' w4) (h4 : KStep o cv cv' w3 w4) (h1 : w.heap.size ≤ rb) (h2 : rb < w3.heap.size) :
    GivesKid B o l' cv none w (.returned (.agg #[.int .i64 k0, .int .i64 n0, .string t0, .slice a0 la ca, .slice b0 lb cb]))
      (((((w4.setCell ⟨rb, 0, none⟩ (.int .i64 k0)).setCell ⟨rb, 1, none⟩ (.int .i64 n0)).setCell ⟨rb, 2, none⟩ (.string t0)).setCell ⟨rb, 3, none⟩ (.slice a0 la ca)).setCell ⟨rb, 4, none⟩ (.slice b0 lb cb)) := by
  have hol := blk_lt hK.box
  have hB := hK.base
  have hz := h3.size
  have hc : cv'.ownBlock ≠ some rb := fun e => by
    rcases h4.own _ e with q | q
    · have := (hK.row.lt _ q).2; omega
    · omega
  have h0 : KStep o cv cv' w w4 := ((KStep.refl o cv w).up h3).trans h4
  exact ⟨_, cv', css', ⟨k0, n0, t0, a0, b0, la, lb, ca, cb, rfl⟩, rfl, (fun r h => absurd h (by simp)), hK4.keep (fun k hk => set5_far (by omega) _ _ _ _ _) (set5_far (by omega) _ _ _ _ _) (fun k hk => set5_far (fun e => hc (by rw [← e]; exact hk)) _ _ _ _ _),
    ((((h0.set h1).set h1).set h1).set h1).set h1⟩

set_option maxRecDepth 100000 in
set_option maxHeartbeats 8000000 in
theorem turned_kids (B o : Nat) (l : List Dat) (cv : Value) (css : List (List Value)) (key : ByteArray) (x : Dat) (w : World) (cs : List Value) (hK : KInv B o l cv css w) (hl : l.length + 60 ≤ 100000) (hv : VA (onS w fun k => k < B) x cs) (h60 : x.items.length ≤ 60) (hk60 : x.keys.length ≤ 60) :
    Calls Tryz.prog 17 #[.string key, .agg cs.toArray, .func (.func 34) #[] #[.pointer (some ⟨o, 0, none⟩)]] w (GivesKid B o (l ++ kidsD (shapeN key) x) cv none w) := by
  have hol := blk_lt hK.box
  have hBo := hK.base
  have hrl := hK.row.lt
  have HX := Lib.hid (fun W (hb : Below w.heap.size w W) => kids1_any B o l cv css x W cs (hK.up hb) (by omega) (hv.upS (fun k hk => hb.block k (by omega)) (fun _ h => h)))
  have HALL := Lib.hid (fun W b0 b1 (hb : Below w.heap.size w W) (q0 : w.heap.size ≤ b0) (q1 : w.heap.size ≤ b1) h0 h1 => all_kids B o l cv css x b0 b1 W cs (hK.up hb) hl (hv.upS (fun k hk => hb.block k (by omega)) (fun _ h => h)) h0 h1
    ⟨by omega, fun e => by have := (hrl _ e).2; omega⟩ ⟨by omega, fun e => by have := (hrl _ e).2; omega⟩ h60 hk60)
  have HKI := Lib.hid hK
  obtain ⟨ka, ia, kc, ic, rfl, -⟩ := hv.inv
  obtain ⟨n, hn⟩ : ∃ n, shapeN key = n := ⟨_, rfl⟩
  have hle : n ≤ 14 := by rw [← hn]; exact shapeN_le key
  have ES := Lib.hid (fun W => shapeOf_any key W)
  unfold GivesShape at ES
  rw [hn] at ES ⊢
  have HRL := Lib.hid hrl
  clear hv hK hrl hn
  have hmf : ∀ (fn : Fn) (first cap : Array Value) (w : World), (Instr.makeFunc fn first cap).run Tryz.prog w = .ok (.func fn first cap) w := fun _ _ _ _ => rfl
  have hcases : n = 5 ∨ n = 6 ∨ n = 7 ∨ n = 9 ∨ n = 13 ∨ ((n : Int) == 5) = false ∧ ((n : Int) == 6) = false ∧ ((n : Int) == 7) = false ∧ ((n : Int) == 9) = false ∧ ((n : Int) == 13) = false ∧ Hid (n ≠ 5 ∧ n ≠ 6 ∧ n ≠ 7 ∧ n ≠ 9 ∧ n ≠ 13) := by
    by_cases h5 : n = 5
    · exact .inl h5
    by_cases h6 : n = 6
    · exact .inr (.inl h6)
    by_cases h7 : n = 7
    · exact .inr (.inr (.inl h7))
    by_cases h9 : n = 9
    · exact .inr (.inr (.inr (.inl h9)))
    by_cases h13 : n = 13
    · exact .inr (.inr (.inr (.inr (.inl h13))))
    have ne : ∀ m : Int, (n : Int) ≠ m → ((n : Int) == m) = false := fun m h => beq_eq_false_iff_ne.mpr h
    exact .inr (.inr (.inr (.inr (.inr ⟨ne 5 (by omega), ne 6 (by omega), ne 7 (by omega), ne 9 (by omega), ne 13 (by omega), h5, h6, h7, h9, h13⟩))))
  rcases hcases with rfl | rfl | rfl | rfl | rfl | ⟨e5, e6, e7, e9, e13, HNE⟩
  · have et : kidsD 5 x = [x] := by simp [kidsD]
    rw [et]
    go_enter Tryz.func17, Tryz.ntmps17
    go_wp2_with fail
    go_at_call 16
    refine (ES.out _).mono ?_
    rintro e w1 ⟨rfl, rfl⟩
    go_wp2_with fail
    go_at_call 34
    refine (HX.out _ (up_alloc (up_alloc (up_alloc (Below.refl _ _) _) _) _)).mono ?_
    rintro e w4 ⟨cs4, cv4, css4, ⟨_, _, _, _, _, _, _, _, _, rfl⟩, rfl, -, hk4, hs4⟩
    have RB := Lib.hid ((hs4.block (w.heap.size + 1 + 1) (by simp) (by omega) (fun e => by have := (HRL.out _ e).2; omega)).trans (show _ = some zero5v by simpa [zero5v, howBlk] using blk_new ((w.alloc (.cells #[.int .i64 x.kind, .int .i64 x.num, .string x.text, .slice ka x.keys.length kc, .slice ia x.items.length ic] 25 (0, 0))).alloc (howBlk (.func (.func 34) #[] #[.pointer (some ⟨o, 0, none⟩)]))) zero5v))
    have HK4 := Lib.hid hk4
    have HS4 := Lib.hid hs4
    clear hk4 hs4
    have p0 : w4.frozen? ⟨w.heap.size + 1 + 1, 0, none⟩ = false := blk_frozen RB.out 0
    have p1 : w4.frozen? ⟨w.heap.size + 1 + 1, 1, none⟩ = false := blk_frozen RB.out 1
    have p2 : w4.frozen? ⟨w.heap.size + 1 + 1, 2, none⟩ = false := blk_frozen RB.out 2
    have p3 : w4.frozen? ⟨w.heap.size + 1 + 1, 3, none⟩ = false := blk_frozen RB.out 3
    have p4 : w4.frozen? ⟨w.heap.size + 1 + 1, 4, none⟩ = false := blk_frozen RB.out 4
    have r0 := (blk_cell RB.out 0).trans rfl
    have r1 := (blk_cell RB.out 1).trans rfl
    have r2 := (blk_cell RB.out 2).trans rfl
    have r3 := (blk_cell RB.out 3).trans rfl
    have r4 := (blk_cell RB.out 4).trans rfl
    go_wp2
    refine ret_val rfl rfl rfl (set5 RB.out _ _ _ _ _) ?_
    exact kid_out HKI.out (up_alloc (up_alloc (up_alloc (Below.refl _ _) _) _) _) HK4.out HS4.out (by omega) (by simp)
  · by_cases k5 : x.kind = 5
    · have et : kidsD 6 x = [x] := by simp [kidsD, k5]
      have e5 : (x.kind == 5) = true := beq_iff_eq.mpr k5
      rw [et]
      clear k5 et
      go_enter Tryz.func17, Tryz.ntmps17
      go_wp2_with fail
      go_at_call 16
      refine (ES.out _).mono ?_
      rintro e w1 ⟨rfl, rfl⟩
      go_wp2_with fail
      go_at_call 34
      refine (HX.out _ (up_alloc (up_alloc (up_alloc (Below.refl _ _) _) _) _)).mono ?_
      rintro e w4 ⟨cs4, cv4, css4, ⟨_, _, _, _, _, _, _, _, _, rfl⟩, rfl, -, hk4, hs4⟩
      have RB := Lib.hid ((hs4.block (w.heap.size + 1 + 1) (by simp) (by omega) (fun e => by have := (HRL.out _ e).2; omega)).trans (show _ = some zero5v by simpa [zero5v, howBlk] using blk_new ((w.alloc (.cells #[.int .i64 x.kind, .int .i64 x.num, .string x.text, .slice ka x.keys.length kc, .slice ia x.items.length ic] 25 (0, 0))).alloc (howBlk (.func (.func 34) #[] #[.pointer (some ⟨o, 0, none⟩)]))) zero5v))
      have HK4 := Lib.hid hk4
      have HS4 := Lib.hid hs4
      clear hk4 hs4
      have p0 : w4.frozen? ⟨w.heap.size + 1 + 1, 0, none⟩ = false := blk_frozen RB.out 0
      have p1 : w4.frozen? ⟨w.heap.size + 1 + 1, 1, none⟩ = false := blk_frozen RB.out 1
      have p2 : w4.frozen? ⟨w.heap.size + 1 + 1, 2, none⟩ = false := blk_frozen RB.out 2
      have p3 : w4.frozen? ⟨w.heap.size + 1 + 1, 3, none⟩ = false := blk_frozen RB.out 3
      have p4 : w4.frozen? ⟨w.heap.size + 1 + 1, 4, none⟩ = false := blk_frozen RB.out 4
      have r0 := (blk_cell RB.out 0).trans rfl
      have r1 := (blk_cell RB.out 1).trans rfl
      have r2 := (blk_cell RB.out 2).trans rfl
      have r3 := (blk_cell RB.out 3).trans rfl
      have r4 := (blk_cell RB.out 4).trans rfl
      go_wp2
      refine ret_val rfl rfl rfl (set5 RB.out _ _ _ _ _) ?_
      exact kid_out HKI.out (up_alloc (up_alloc (up_alloc (Below.refl _ _) _) _) _) HK4.out HS4.out (by omega) (by simp)
    · have et : kidsD 6 x = [] := by simp [kidsD, k5]
      have e5 : (x.kind == 5) = false := beq_eq_false_iff_ne.mpr k5
      rw [et]
      clear k5 et
      go_enter Tryz.func17, Tryz.ntmps17
      go_wp2_with fail
      go_at_call 16
      refine (ES.out _).mono ?_
      rintro e w1 ⟨rfl, rfl⟩
      go_wp2
      refine ret_val rfl rfl rfl (by simpa using blk_new ((w.alloc (.cells #[.int .i64 x.kind, .int .i64 x.num, .string x.text, .slice ka x.keys.length kc, .slice ia x.items.length ic] 25 (0, 0))).alloc (.cells #[.func (.func 34) #[] #[.pointer (some ⟨o, 0, none⟩)]] 28 (0, 0))) (.cells #[.int .i64 x.kind, .int .i64 x.num, .string x.text, .slice ka x.keys.length kc, .slice ia x.items.length ic] 25 (0, 0))) ?_
      have hup := up_alloc (up_alloc (up_alloc (Below.refl w.heap.size w) (.cells #[.int .i64 x.kind, .int .i64 x.num, .string x.text, .slice ka x.keys.length kc, .slice ia x.items.length ic] 25 (0, 0))) (.cells #[.func (.func 34) #[] #[.pointer (some ⟨o, 0, none⟩)]] 28 (0, 0))) (.cells #[.int .i64 x.kind, .int .i64 x.num, .string x.text, .slice ka x.keys.length kc, .slice ia x.items.length ic] 25 (0, 0))
      rw [List.append_nil]
      exact ⟨_, cv, css, ⟨_, _, _, _, _, _, _, _, _, rfl⟩, rfl, (fun r h => absurd h (by simp)), HKI.out.up hup, (KStep.refl _ _ _).up hup⟩
  · by_cases k5 : x.kind = 5
    · have et : kidsD 7 x = [x] := by simp [kidsD, k5]
      have e5 : (x.kind == 5) = true := beq_iff_eq.mpr k5
      rw [et]
      clear k5 et
      go_enter Tryz.func17, Tryz.ntmps17
      go_wp2_with fail
      go_at_call 16
      refine (ES.out _).mono ?_
      rintro e w1 ⟨rfl, rfl⟩
      go_wp2_with fail
      go_at_call 34
      refine (HX.out _ (up_alloc (up_alloc (up_alloc (Below.refl _ _) _) _) _)).mono ?_
      rintro e w4 ⟨cs4, cv4, css4, ⟨_, _, _, _, _, _, _, _, _, rfl⟩, rfl, -, hk4, hs4⟩
      have RB := Lib.hid ((hs4.block (w.heap.size + 1 + 1) (by simp) (by omega) (fun e => by have := (HRL.out _ e).2; omega)).trans (show _ = some zero5v by simpa [zero5v, howBlk] using blk_new ((w.alloc (.cells #[.int .i64 x.kind, .int .i64 x.num, .string x.text, .slice ka x.keys.length kc, .slice ia x.items.length ic] 25 (0, 0))).alloc (howBlk (.func (.func 34) #[] #[.pointer (some ⟨o, 0, none⟩)]))) zero5v))
      have HK4 := Lib.hid hk4
      have HS4 := Lib.hid hs4
      clear hk4 hs4
      have p0 : w4.frozen? ⟨w.heap.size + 1 + 1, 0, none⟩ = false := blk_frozen RB.out 0
      have p1 : w4.frozen? ⟨w.heap.size + 1 + 1, 1, none⟩ = false := blk_frozen RB.out 1
      have p2 : w4.frozen? ⟨w.heap.size + 1 + 1, 2, none⟩ = false := blk_frozen RB.out 2
      have p3 : w4.frozen? ⟨w.heap.size + 1 + 1, 3, none⟩ = false := blk_frozen RB.out 3
      have p4 : w4.frozen? ⟨w.heap.size + 1 + 1, 4, none⟩ = false := blk_frozen RB.out 4
      have r0 := (blk_cell RB.out 0).trans rfl
      have r1 := (blk_cell RB.out 1).trans rfl
      have r2 := (blk_cell RB.out 2).trans rfl
      have r3 := (blk_cell RB.out 3).trans rfl
      have r4 := (blk_cell RB.out 4).trans rfl
      go_wp2
      refine ret_val rfl rfl rfl (set5 RB.out _ _ _ _ _) ?_
      exact kid_out HKI.out (up_alloc (up_alloc (up_alloc (Below.refl _ _) _) _) _) HK4.out HS4.out (by omega) (by simp)
    · have et : kidsD 7 x = x.items.filter fun y => y.kind = 5 := by simp [kidsD, k5]
      have e5 : (x.kind == 5) = false := beq_eq_false_iff_ne.mpr k5
      rw [et]
      clear k5 et
      go_enter Tryz.func17, Tryz.ntmps17
      go_wp2_with fail
      go_at_call 16
      refine (ES.out _).mono ?_
      rintro e w1 ⟨rfl, rfl⟩
      go_wp2_with fail
      go_at_call 25
      refine (HALL.out _ _ _ (up_alloc (up_alloc (up_alloc (Below.refl _ _) _) _) _) (by omega) (by omega) (blk_up (blk_new w _) (up_alloc (up_alloc (Below.refl _ _) _) _)) (blk_up (by simpa [howBlk] using blk_new (w.alloc (.cells #[.int .i64 x.kind, .int .i64 x.num, .string x.text, .slice ka x.keys.length kc, .slice ia x.items.length ic] 25 (0, 0))) (howBlk (.func (.func 34) #[] #[.pointer (some ⟨o, 0, none⟩)]))) (up_alloc (Below.refl _ _) _))).mono ?_
      rintro e w4 ⟨cs4, cv4, css4, ⟨_, _, _, _, _, _, _, _, _, rfl⟩, rfl, -, hk4, hs4⟩
      have RB := Lib.hid ((hs4.block (w.heap.size + 1 + 1) (by simp) (by omega) (fun e => by have := (HRL.out _ e).2; omega)).trans (show _ = some zero5v by simpa [zero5v, howBlk] using blk_new ((w.alloc (.cells #[.int .i64 x.kind, .int .i64 x.num, .string x.text, .slice ka x.keys.length kc, .slice ia x.items.length ic] 25 (0, 0))).alloc (howBlk (.func (.func 34) #[] #[.pointer (some ⟨o, 0, none⟩)]))) zero5v))
      have HK4 := Lib.hid hk4
      have HS4 := Lib.hid hs4
      clear hk4 hs4
      have p0 : w4.frozen? ⟨w.heap.size + 1 + 1, 0, none⟩ = false := blk_frozen RB.out 0
      have p1 : w4.frozen? ⟨w.heap.size + 1 + 1, 1, none⟩ = false := blk_frozen RB.out 1
      have p2 : w4.frozen? ⟨w.heap.size + 1 + 1, 2, none⟩ = false := blk_frozen RB.out 2
      have p3 : w4.frozen? ⟨w.heap.size + 1 + 1, 3, none⟩ = false := blk_frozen RB.out 3
      have p4 : w4.frozen? ⟨w.heap.size + 1 + 1, 4, none⟩ = false := blk_frozen RB.out 4
      have r0 := (blk_cell RB.out 0).trans rfl
      have r1 := (blk_cell RB.out 1).trans rfl
      have r2 := (blk_cell RB.out 2).trans rfl
      have r3 := (blk_cell RB.out 3).trans rfl
      have r4 := (blk_cell RB.out 4).trans rfl
      go_wp2
      refine ret_val rfl rfl rfl (set5 RB.out _ _ _ _ _) ?_
      exact kid_out HKI.out (up_alloc (up_alloc (up_alloc (Below.refl _ _) _) _) _) HK4.out HS4.out (by omega) (by simp)
  · have et : kidsD 9 x = x.items.filter fun y => y.kind = 5 := by simp [kidsD]
    rw [et]
    clear et
    go_enter Tryz.func17, Tryz.ntmps17
    go_wp2_with fail
    go_at_call 16
    refine (ES.out _).mono ?_
    rintro e w1 ⟨rfl, rfl⟩
    go_wp2_with fail
    go_at_call 25
    refine (HALL.out _ _ _ (up_alloc (up_alloc (up_alloc (Below.refl _ _) _) _) _) (by omega) (by omega) (blk_up (blk_new w _) (up_alloc (up_alloc (Below.refl _ _) _) _)) (blk_up (by simpa [howBlk] using blk_new (w.alloc (.cells #[.int .i64 x.kind, .int .i64 x.num, .string x.text, .slice ka x.keys.length kc, .slice ia x.items.length ic] 25 (0, 0))) (howBlk (.func (.func 34) #[] #[.pointer (some ⟨o, 0, none⟩)]))) (up_alloc (Below.refl _ _) _))).mono ?_
    rintro e w4 ⟨cs4, cv4, css4, ⟨_, _, _, _, _, _, _, _, _, rfl⟩, rfl, -, hk4, hs4⟩
    have RB := Lib.hid ((hs4.block (w.heap.size + 1 + 1) (by simp) (by omega) (fun e => by have := (HRL.out _ e).2; omega)).trans (show _ = some zero5v by simpa [zero5v, howBlk] using blk_new ((w.alloc (.cells #[.int .i64 x.kind, .int .i64 x.num, .string x.text, .slice ka x.keys.length kc, .slice ia x.items.length ic] 25 (0, 0))).alloc (howBlk (.func (.func 34) #[] #[.pointer (some ⟨o, 0, none⟩)]))) zero5v))
    have HK4 := Lib.hid hk4
    have HS4 := Lib.hid hs4
    clear hk4 hs4
    have p0 : w4.frozen? ⟨w.heap.size + 1 + 1, 0, none⟩ = false := blk_frozen RB.out 0
    have p1 : w4.frozen? ⟨w.heap.size + 1 + 1, 1, none⟩ = false := blk_frozen RB.out 1
    have p2 : w4.frozen? ⟨w.heap.size + 1 + 1, 2, none⟩ = false := blk_frozen RB.out 2
    have p3 : w4.frozen? ⟨w.heap.size + 1 + 1, 3, none⟩ = false := blk_frozen RB.out 3
    have p4 : w4.frozen? ⟨w.heap.size + 1 + 1, 4, none⟩ = false := blk_frozen RB.out 4
    have r0 := (blk_cell RB.out 0).trans rfl
    have r1 := (blk_cell RB.out 1).trans rfl
    have r2 := (blk_cell RB.out 2).trans rfl
    have r3 := (blk_cell RB.out 3).trans rfl
    have r4 := (blk_cell RB.out 4).trans rfl
    go_wp2
    refine ret_val rfl rfl rfl (set5 RB.out _ _ _ _ _) ?_
    exact kid_out HKI.out (up_alloc (up_alloc (up_alloc (Below.refl _ _) _) _) _) HK4.out HS4.out (by omega) (by simp)
  · have et : kidsD 13 x = x.items.filter fun y => y.kind = 5 := by simp [kidsD]
    rw [et]
    clear et
    go_enter Tryz.func17, Tryz.ntmps17
    go_wp2_with fail
    go_at_call 16
    refine (ES.out _).mono ?_
    rintro e w1 ⟨rfl, rfl⟩
    go_wp2_with fail
    go_at_call 25
    refine (HALL.out _ _ _ (up_alloc (up_alloc (up_alloc (Below.refl _ _) _) _) _) (by omega) (by omega) (blk_up (blk_new w _) (up_alloc (up_alloc (Below.refl _ _) _) _)) (blk_up (by simpa [howBlk] using blk_new (w.alloc (.cells #[.int .i64 x.kind, .int .i64 x.num, .string x.text, .slice ka x.keys.length kc, .slice ia x.items.length ic] 25 (0, 0))) (howBlk (.func (.func 34) #[] #[.pointer (some ⟨o, 0, none⟩)]))) (up_alloc (Below.refl _ _) _))).mono ?_
    rintro e w4 ⟨cs4, cv4, css4, ⟨_, _, _, _, _, _, _, _, _, rfl⟩, rfl, -, hk4, hs4⟩
    have RB := Lib.hid ((hs4.block (w.heap.size + 1 + 1) (by simp) (by omega) (fun e => by have := (HRL.out _ e).2; omega)).trans (show _ = some zero5v by simpa [zero5v, howBlk] using blk_new ((w.alloc (.cells #[.int .i64 x.kind, .int .i64 x.num, .string x.text, .slice ka x.keys.length kc, .slice ia x.items.length ic] 25 (0, 0))).alloc (howBlk (.func (.func 34) #[] #[.pointer (some ⟨o, 0, none⟩)]))) zero5v))
    have HK4 := Lib.hid hk4
    have HS4 := Lib.hid hs4
    clear hk4 hs4
    have p0 : w4.frozen? ⟨w.heap.size + 1 + 1, 0, none⟩ = false := blk_frozen RB.out 0
    have p1 : w4.frozen? ⟨w.heap.size + 1 + 1, 1, none⟩ = false := blk_frozen RB.out 1
    have p2 : w4.frozen? ⟨w.heap.size + 1 + 1, 2, none⟩ = false := blk_frozen RB.out 2
    have p3 : w4.frozen? ⟨w.heap.size + 1 + 1, 3, none⟩ = false := blk_frozen RB.out 3
    have p4 : w4.frozen? ⟨w.heap.size + 1 + 1, 4, none⟩ = false := blk_frozen RB.out 4
    have r0 := (blk_cell RB.out 0).trans rfl
    have r1 := (blk_cell RB.out 1).trans rfl
    have r2 := (blk_cell RB.out 2).trans rfl
    have r3 := (blk_cell RB.out 3).trans rfl
    have r4 := (blk_cell RB.out 4).trans rfl
    go_wp2
    refine ret_val rfl rfl rfl (set5 RB.out _ _ _ _ _) ?_
    exact kid_out HKI.out (up_alloc (up_alloc (up_alloc (Below.refl _ _) _) _) _) HK4.out HS4.out (by omega) (by simp)
  · have et : kidsD n x = [] := by
      have h := HNE.out
      simp [kidsD, h]
    rw [et]
    clear et
    go_enter Tryz.func17, Tryz.ntmps17
    go_wp2_with fail
    go_at_call 16
    refine (ES.out _).mono ?_
    rintro e w1 ⟨rfl, rfl⟩
    go_wp2
    refine ret_val rfl rfl rfl (by simpa using blk_new ((w.alloc (.cells #[.int .i64 x.kind, .int .i64 x.num, .string x.text, .slice ka x.keys.length kc, .slice ia x.items.length ic] 25 (0, 0))).alloc (.cells #[.func (.func 34) #[] #[.pointer (some ⟨o, 0, none⟩)]] 28 (0, 0))) (.cells #[.int .i64 x.kind, .int .i64 x.num, .string x.text, .slice ka x.keys.length kc, .slice ia x.items.length ic] 25 (0, 0))) ?_
    have hup := up_alloc (up_alloc (up_alloc (Below.refl w.heap.size w) (.cells #[.int .i64 x.kind, .int .i64 x.num, .string x.text, .slice ka x.keys.length kc, .slice ia x.items.length ic] 25 (0, 0))) (.cells #[.func (.func 34) #[] #[.pointer (some ⟨o, 0, none⟩)]] 28 (0, 0))) (.cells #[.int .i64 x.kind, .int .i64 x.num, .string x.text, .slice ka x.keys.length kc, .slice ia x.items.length ic] 25 (0, 0))
    rw [List.append_nil]
    exact ⟨_, cv, css, ⟨_, _, _, _, _, _, _, _, _, rfl⟩, rfl, (fun r h => absurd h (by simp)), HKI.out.up hup, (KStep.refl _ _ _).up hup⟩
end Go.Proofs.YthdnkcofcbinhaaGreatDoor
