/- strconv's atof64exact, atof64, ParseFloat. -/
import Derived.Test.YtefhboojobfchaaGreatDoorPf1aJ
import Derived.Test.YtefhboojobfchaaGreatDoorPf1bJ
set_option linter.unusedVariables false
set_option linter.unusedSimpArgs false
namespace Go.Proofs.YtefhboojobfchaaGreatDoor
open Go.RowKit

theorem readFloat_any (s : ByteArray) (k p : Nat) (w : World) (h : FText s k p) : Calls Tryz.prog 77 #[.string s] w (FloatRead s w) := by
  have hz := h.few
  have hp := h.pn
  have hkp := h.kp
  have hk : k = 0 ∨ k = 1 := by
    rcases h.k1 with h | h
    · exact .inl h
    · exact .inr h.1
  rcases hk with rfl | rfl
  · by_cases h48 : ((s[0]'(by omega)).toNat : Int) = 48
    · exact readFloat_pos0 s p w h (fun _ => h48)
    · exact readFloat_pos1 s p w h (fun _ => h48)
  · by_cases h48 : ((s[1]'(by omega)).toNat : Int) = 48
    · exact readFloat_neg0 s p w h (fun _ => h48)
    · exact readFloat_neg1 s p w h (fun _ => h48)

/-- A quotient, drawn where no number fixes it. -/
theorem run_quo (x y : Nat) (w : World) : ∃ g w1, (binOp .quo 85 (.float .f64 x) (.float .f64 y)).run Tryz.prog w = .ok (.float .f64 g) w1 ∧ Below w.heap.size w w1 := by
  cases h : FloatKind.f64.format.div x y with
  | some r => exact ⟨r, w, by simp [binOp, Op.floatArith, h], Below.refl _ _⟩
  | none => exact ⟨_, w.drew, by simp [binOp, Op.floatArith, h]; rfl, up_drew (Below.refl _ _)⟩
theorem run_negf (f : Nat) (w : World) : (Op.unary .neg (.float .f64 f)).run Tryz.prog w = .ok (.float .f64 (Op.negFloat .f64 f)) w := rfl

set_option maxHeartbeats 1000000 in
theorem exact_any (m : Nat) (x : Int) (ng : Bool) (T : Nat) (w : World) (hT : FT T w) (h1 : m < 1000000000000000) (h2 : -15 ≤ x) (h3 : x ≤ 0) :
    Calls Tryz.prog 87 #[.int .u64 m, .int .i64 x, .bool ng] w fun e w' => (∃ f, e = .returned (.tuple #[.float .f64 f, .bool true])) ∧ Below w.heap.size w w' := by
  obtain ⟨-, -, -, -, hinfo, b, o, c, -, hsl, hc1, hc2, hcells⟩ := hT
  unfold maxLen at hc2
  have g1 : ((m : Int) / 4503599627370496 != 0) = false := bne_eq_false_iff_eq.mpr (by omega)
  have hneg := run_negf
  by_cases hx0 : x = 0
  · subst hx0
    clear hcells hsl
    cases ng
    all_goals
      go_enter Tryz.func87, Tryz.ntmps87
      go_wp2
      go_ret2
      exact ⟨⟨_, rfl⟩, Below.refl _ _⟩
  · obtain ⟨j, rfl⟩ : ∃ j : Nat, x = -(j : Int) := ⟨x.natAbs, by omega⟩
    obtain ⟨f, hf⟩ := hcells j (by omega)
    have g2 : ((-(j : Int)) == 0) = false := beq_eq_false_iff_ne.mpr (by omega)
    have g3 : ¬ (0 : Int) < -(j : Int) := by omega
    have g4 : (-(j : Int)) < 0 := by omega
    have g5 : (-22 : Int) ≤ -(j : Int) := by omega
    have g6 : (j : Int) < 23 := by omega
    have g7 : (j : Int) ≤ 22 := by omega
    have g8 : (0 : Int) < (j : Int) := by omega
    clear hcells hx0 h2 h3
    cases ng
    · obtain ⟨q, w1, hq, hb⟩ := run_quo (floatOfInt .f64 m) f w
      have HB := Lib.hid hb
      clear hb
      go_enter Tryz.func87, Tryz.ntmps87
      go_wp2
      go_ret2
      exact ⟨⟨_, rfl⟩, HB.out⟩
    · obtain ⟨q, w1, hq, hb⟩ := run_quo (Op.negFloat .f64 (floatOfInt .f64 m)) f w
      have HB := Lib.hid hb
      clear hb
      go_enter Tryz.func87, Tryz.ntmps87
      go_wp2
      go_ret2
      exact ⟨⟨_, rfl⟩, HB.out⟩

set_option maxHeartbeats 1000000 in
theorem atof64_any (s : ByteArray) (k p : Nat) (h : FText s k p) (T : Nat) (w : World) (hT : FT T w) :
    Calls Tryz.prog 68 #[.string s] w fun e w' => (∃ f, e = .returned (.tuple #[.float .f64 f, .int .i64 s.size, .nilIface])) ∧ Below w.heap.size w w' := by
  have HS := Lib.hid (special_none s k p w h)
  have HR := Lib.hid (readFloat_any s k p w h)
  have HT := Lib.hid hT
  have hopt := hT.2.2.2.1
  clear h hT
  go_enter Tryz.func68, Tryz.ntmps68
  go_wp2_with fail
  go_at_call 76
  refine HS.out.mono ?_
  rintro e w1 ⟨rfl, rfl⟩
  go_wp2_with fail
  go_at_call 77
  refine HR.out.mono ?_
  rintro e w1 ⟨m, x, ng, rfl, hm0, hm1, hx0, hx1, rfl⟩
  have HE := Lib.hid (exact_any m x ng T w HT.out hm1 hx0 hx1)
  have g1 : ((m : Int) == 0) = false := beq_eq_false_iff_ne.mpr (by omega)
  have g2 : ¬ (310 : Int) < x := by omega
  have g3 : ¬ x < (-345 : Int) := by omega
  clear hm0 hm1 hx0 hx1
  cases ng
  all_goals
    go_wp2_with (first | (go_at_call 87; refine HE.out.mono ?_; rintro e w2 ⟨⟨f, rfl⟩, hb⟩; have HB := Lib.hid hb; clear hb) | go_in)
    go_ret3
    exact ⟨⟨_, rfl⟩, HB.out⟩

theorem prefix_any (s : ByteArray) (k p : Nat) (h : FText s k p) (T : Nat) (w : World) (hT : FT T w) :
    Calls Tryz.prog 56 #[.string s, .int .i64 64] w fun e w' => (∃ f, e = .returned (.tuple #[.float .f64 f, .int .i64 s.size, .nilIface])) ∧ Below w.heap.size w w' := by
  have HA := Lib.hid (atof64_any s k p h T w hT)
  clear h hT
  go_enter Tryz.func56, Tryz.ntmps56
  go_wp2_with fail
  go_at_call 68
  refine HA.out.mono ?_
  rintro e w1 ⟨⟨f, rfl⟩, hb⟩
  have HB := Lib.hid hb
  clear hb
  go_wp2
  go_ret3
  exact ⟨⟨_, rfl⟩, HB.out⟩

theorem inner_any (s : ByteArray) (k p : Nat) (h : FText s k p) (T : Nat) (w : World) (hT : FT T w) :
    Calls Tryz.prog 48 #[.string s, .int .i64 64] w fun e w' => (∃ f, e = .returned (.tuple #[.float .f64 f, .nilIface])) ∧ Below w.heap.size w w' := by
  have HA := Lib.hid (prefix_any s k p h T w hT)
  clear h hT
  go_enter Tryz.func48, Tryz.ntmps48
  go_wp2_with fail
  go_at_call 56
  refine HA.out.mono ?_
  rintro e w1 ⟨⟨f, rfl⟩, hb⟩
  have HB := Lib.hid hb
  clear hb
  go_wp2
  go_ret2
  exact ⟨⟨_, rfl⟩, HB.out⟩

theorem outer_any (s : ByteArray) (k p : Nat) (h : FText s k p) (T : Nat) (w : World) (hT : FT T w) :
    Calls Tryz.prog 43 #[.string s, .int .i64 64] w fun e w' => (∃ f, e = .returned (.tuple #[.float .f64 f, .nilIface])) ∧ Below w.heap.size w w' := by
  have HA := Lib.hid (inner_any s k p h T w hT)
  clear h hT
  go_enter Tryz.func43, Tryz.ntmps43
  go_wp2_with fail
  go_at_call 48
  refine HA.out.mono ?_
  rintro e w1 ⟨⟨f, rfl⟩, hb⟩
  have HB := Lib.hid hb
  clear hb
  go_wp2
  go_ret2
  exact ⟨⟨_, rfl⟩, HB.out⟩
end Go.Proofs.YtefhboojobfchaaGreatDoor
