/- strconv's atof64exact, atof64, ParseFloat. -/
import Derived.Test.YthdnkcofcbinhaaGreatDoorGnJ
import Derived.Test.YthdnkcofcbinhaaGreatDoorPf1aJ
import Derived.Test.YthdnkcofcbinhaaGreatDoorPf1bJ
import Derived.Test.YthdnkcofcbinhaaGreatDoorPiJ
set_option linter.unusedVariables false
set_option linter.unusedSimpArgs false
namespace Go.Proofs.YthdnkcofcbinhaaGreatDoor
open Go.RowKit

theorem readFloat_any (s : ByteArray) (k p : Nat) (w : World) (h : FText s k p) : Calls Tryz.prog 105 #[.string s] w (FloatRead s w) := by
  have hz := h.few
  have hp := h.pn
  have hkp := h.kp
  have hk : k = 0 ∨ k = 1 := by
    rcases h.k1 with h | h
    · exact .inl h
    · exact .inr h.1
  rcases hk with rfl | rfl
  · by_cases h48 : ((s[0]'(by omega)).toNat : Int) = 48
    · exact readFloat_pos0 s p w h (fun _ => h48)
    · exact readFloat_pos1 s p w h (fun _ => h48)
  · by_cases h48 : ((s[1]'(by omega)).toNat : Int) = 48
    · exact readFloat_neg0 s p w h (fun _ => h48)
    · exact readFloat_neg1 s p w h (fun _ => h48)

/-- A quotient, drawn where no number fixes it. -/
theorem run_quo (x y : Nat) (w : World) : ∃ g w1, (binOp .quo 90 (.float .f64 x) (.float .f64 y)).run Tryz.prog w = .ok (.float .f64 g) w1 ∧ Below w.heap.size w w1 := by
  cases h : FloatKind.f64.format.div x y with
  | some r => exact ⟨r, w, by simp [binOp, Op.floatArith, h], Below.refl _ _⟩
  | none => exact ⟨_, w.drew, by simp [binOp, Op.floatArith, h]; rfl, up_drew (Below.refl _ _)⟩
theorem run_negf (f : Nat) (w : World) : (Op.unary .neg (.float .f64 f)).run Tryz.prog w = .ok (.float .f64 (Op.negFloat .f64 f)) w := rfl

set_option maxHeartbeats 1000000 in
theorem exact_any (m : Nat) (x : Int) (ng : Bool) (T : Nat) (w : World) (hT : FT T w) (h1 : m < 1000000000000000) (h2 : -15 ≤ x) (h3 : x ≤ 0) :
    Calls Tryz.prog 115 #[.int .u64 m, .int .i64 x, .bool ng] w fun e w' => (∃ f, e = .returned (.tuple #[.float .f64 f, .bool true])) ∧ Below w.heap.size w w' := by
  obtain ⟨-, -, -, -, hinfo, b, o, c, -, hsl, hc1, hc2, hcells⟩ := hT
  unfold maxLen at hc2
  have g1 : ((m : Int) / 4503599627370496 != 0) = false := bne_eq_false_iff_eq.mpr (by omega)
  have hneg := run_negf
  by_cases hx0 : x = 0
  · subst hx0
    clear hcells hsl
    cases ng
    all_goals
      go_enter Tryz.func115, Tryz.ntmps115
      go_wp2
      go_ret2
      exact ⟨⟨_, rfl⟩, Below.refl _ _⟩
  · obtain ⟨j, rfl⟩ : ∃ j : Nat, x = -(j : Int) := ⟨x.natAbs, by omega⟩
    obtain ⟨f, hf⟩ := hcells j (by omega)
    have g2 : ((-(j : Int)) == 0) = false := beq_eq_false_iff_ne.mpr (by omega)
    have g3 : ¬ (0 : Int) < -(j : Int) := by omega
    have g4 : (-(j : Int)) < 0 := by omega
    have g5 : (-22 : Int) ≤ -(j : Int) := by omega
    have g6 : (j : Int) < 23 := by omega
    have g7 : (j : Int) ≤ 22 := by omega
    have g8 : (0 : Int) < (j : Int) := by omega
    clear hcells hx0 h2 h3
    cases ng
    · obtain ⟨q, w1, hq, hb⟩ := run_quo (floatOfInt .f64 m) f w
      have HB := Lib.hid hb
      clear hb
      go_enter Tryz.func115, Tryz.ntmps115
      go_wp2
      go_ret2
      exact ⟨⟨_, rfl⟩, HB.out⟩
    · obtain ⟨q, w1, hq, hb⟩ := run_quo (Op.negFloat .f64 (floatOfInt .f64 m)) f w
      have HB := Lib.hid hb
      clear hb
      go_enter Tryz.func115, Tryz.ntmps115
      go_wp2
      go_ret2
      exact ⟨⟨_, rfl⟩, HB.out⟩

set_option maxHeartbeats 1000000 in
theorem atof64_any (s : ByteArray) (k p : Nat) (h : FText s k p) (T : Nat) (w : World) (hT : FT T w) :
    Calls Tryz.prog 93 #[.string s] w fun e w' => (∃ f, e = .returned (.tuple #[.float .f64 f, .int .i64 s.size, .nilIface])) ∧ Below w.heap.size w w' := by
  have HS := Lib.hid (special_none s k p w h)
  have HR := Lib.hid (readFloat_any s k p w h)
  have HT := Lib.hid hT
  have hopt := hT.2.2.2.1
  clear h hT
  go_enter Tryz.func93, Tryz.ntmps93
  go_wp2_with fail
  go_at_call 104
  refine HS.out.mono ?_
  rintro e w1 ⟨rfl, rfl⟩
  go_wp2_with fail
  go_at_call 105
  refine HR.out.mono ?_
  rintro e w1 ⟨m, x, ng, rfl, hm0, hm1, hx0, hx1, rfl⟩
  have HE := Lib.hid (exact_any m x ng T w HT.out hm1 hx0 hx1)
  have g1 : ((m : Int) == 0) = false := beq_eq_false_iff_ne.mpr (by omega)
  have g2 : ¬ (310 : Int) < x := by omega
  have g3 : ¬ x < (-345 : Int) := by omega
  clear hm0 hm1 hx0 hx1
  cases ng
  all_goals
    go_wp2_with (first | (go_at_call 115; refine HE.out.mono ?_; rintro e w2 ⟨⟨f, rfl⟩, hb⟩; have HB := Lib.hid hb; clear hb) | go_in)
    go_ret3
    exact ⟨⟨_, rfl⟩, HB.out⟩

theorem prefix_any (s : ByteArray) (k p : Nat) (h : FText s k p) (T : Nat) (w : World) (hT : FT T w) :
    Calls Tryz.prog 77 #[.string s, .int .i64 64] w fun e w' => (∃ f, e = .returned (.tuple #[.float .f64 f, .int .i64 s.size, .nilIface])) ∧ Below w.heap.size w w' := by
  have HA := Lib.hid (atof64_any s k p h T w hT)
  clear h hT
  go_enter Tryz.func77, Tryz.ntmps77
  go_wp2_with fail
  go_at_call 93
  refine HA.out.mono ?_
  rintro e w1 ⟨⟨f, rfl⟩, hb⟩
  have HB := Lib.hid hb
  clear hb
  go_wp2
  go_ret3
  exact ⟨⟨_, rfl⟩, HB.out⟩

theorem inner_any (s : ByteArray) (k p : Nat) (h : FText s k p) (T : Nat) (w : World) (hT : FT T w) :
    Calls Tryz.prog 63 #[.string s, .int .i64 64] w fun e w' => (∃ f, e = .returned (.tuple #[.float .f64 f, .nilIface])) ∧ Below w.heap.size w w' := by
  have HA := Lib.hid (prefix_any s k p h T w hT)
  clear h hT
  go_enter Tryz.func63, Tryz.ntmps63
  go_wp2_with fail
  go_at_call 77
  refine HA.out.mono ?_
  rintro e w1 ⟨⟨f, rfl⟩, hb⟩
  have HB := Lib.hid hb
  clear hb
  go_wp2
  go_ret2
  exact ⟨⟨_, rfl⟩, HB.out⟩

theorem outer_any (s : ByteArray) (k p : Nat) (h : FText s k p) (T : Nat) (w : World) (hT : FT T w) :
    Calls Tryz.prog 52 #[.string s, .int .i64 64] w fun e w' => (∃ f, e = .returned (.tuple #[.float .f64 f, .nilIface])) ∧ Below w.heap.size w w' := by
  have HA := Lib.hid (inner_any s k p h T w hT)
  clear h hT
  go_enter Tryz.func52, Tryz.ntmps52
  go_wp2_with fail
  go_at_call 63
  refine HA.out.mono ?_
  rintro e w1 ⟨⟨f, rfl⟩, hb⟩
  have HB := Lib.hid hb
  clear hb
  go_wp2
  go_ret2
  exact ⟨⟨_, rfl⟩, HB.out⟩
end Go.Proofs.YthdnkcofcbinhaaGreatDoor

/- strconv.ParseFloat at a number of quarters. -/
namespace Go.Proofs.YthdnkcofcbinhaaGreatDoor
open Go.RowKit Go.Lib

theorem ba_get {L : List UInt8} {i : Nat} {c : UInt8} (hc : L[i]? = some c) (h : i < (⟨L.toArray⟩ : ByteArray).size) : (((⟨L.toArray⟩ : ByteArray)[i]'h).toNat : Int) = (c.toNat : Int) := by
  have e : (⟨L.toArray⟩ : ByteArray)[i]'h = L[i]'(by exact h) := rfl
  rw [e]
  obtain ⟨h1, h2⟩ := List.getElem?_eq_some_iff.1 hc
  rw [h2]

def Digits (l : List UInt8) : Prop := ∀ c ∈ l, 48 ≤ c.toNat ∧ c.toNat ≤ 57

theorem ftext_of (sg ds es : List UInt8) (hsg : sg = [] ∨ sg = [45]) (hds : ds ≠ []) (hd : Digits ds) (hed : Digits es) (hlen : sg.length + (ds.length + (es.length + 2)) ≤ 15) :
    FText ⟨(sg ++ (ds ++ 46 :: (es ++ [53]))).toArray⟩ sg.length (sg.length + ds.length) := by
  have hdl : 0 < ds.length := List.length_pos_iff.2 hds
  have hs : (⟨(sg ++ (ds ++ 46 :: (es ++ [53]))).toArray⟩ : ByteArray).size = sg.length + (ds.length + (es.length + 2)) := by
    show (sg ++ (ds ++ 46 :: (es ++ [53]))).toArray.size = _
    simp
  have at2 : ∀ i, sg.length + ds.length ≤ i → (sg ++ (ds ++ 46 :: (es ++ [53])))[i]? = (46 :: (es ++ [53]))[i - sg.length - ds.length]? := fun i hi => by
    rw [List.getElem?_append_right (by omega), List.getElem?_append_right (by omega)]
  have at1 : ∀ i, sg.length ≤ i → i < sg.length + ds.length → (sg ++ (ds ++ 46 :: (es ++ [53])))[i]? = ds[i - sg.length]? := fun i hi hi2 => by
    rw [List.getElem?_append_right (by omega), List.getElem?_append_left (by omega)]
  refine ⟨by omega, by omega, by omega, ?_, fun i h hi hip => ?_, fun h => ?_, fun h => ?_⟩
  · rcases hsg with rfl | rfl
    · exact .inl rfl
    · exact .inr ⟨rfl, fun h => ba_get (c := 45) rfl h⟩
  · rw [hs] at h
    rcases Nat.lt_or_ge i (sg.length + ds.length) with h1 | h1
    · have hg := at1 i hi h1
      rw [List.getElem?_eq_getElem (l := ds) (by omega)] at hg
      rw [ba_get hg]
      have := hd _ (List.getElem_mem (by omega : i - sg.length < ds.length))
      omega
    · have hg := at2 i h1
      obtain ⟨j, hj⟩ : ∃ j, i - sg.length - ds.length = j + 1 := ⟨i - sg.length - ds.length - 1, by omega⟩
      rw [hj, List.getElem?_cons_succ] at hg
      rcases Nat.lt_or_ge j es.length with h2 | h2
      · rw [List.getElem?_append_left h2, List.getElem?_eq_getElem h2] at hg
        rw [ba_get hg]
        have := hed _ (List.getElem_mem h2)
        omega
      · obtain rfl : j = es.length := by omega
        rw [List.getElem?_append_right (Nat.le_refl _), Nat.sub_self] at hg
        rw [ba_get (c := 53) hg]
        decide
  · have hg := at2 (sg.length + ds.length) (Nat.le_refl _)
    rw [show sg.length + ds.length - sg.length - ds.length = 0 by omega] at hg
    exact ba_get (c := 46) hg h
  · rw [hs] at h
    have hg := at2 (sg.length + (ds.length + (es.length + 2)) - 1) (by omega)
    rw [show sg.length + (ds.length + (es.length + 2)) - 1 - sg.length - ds.length = es.length + 1 by omega, List.getElem?_cons_succ, List.getElem?_append_right (Nat.le_refl _), Nat.sub_self] at hg
    have e := ba_get (c := 53) hg (by rw [hs]; exact h)
    simp only [hs]
    rw [e]
    decide

theorem dec_len : ∀ (k u : Nat), u < 10 ^ (k + 1) → (decDigits u).length ≤ k + 1 := by
  intro k
  induction k with
  | zero =>
    intro u hu
    rw [decDigits]
    split
    · simp
    · omega
  | succ k ih =>
    intro u hu
    rw [decDigits]
    split
    · simp
    · have := ih (u / 10) (by rw [Nat.pow_succ] at hu; omega)
      simp
      omega

theorem quarter_text (n : Int) (h0 : -1000000000 < n) (h1 : n < 1000000000) (h2 : n.tmod 4 ≠ 0) : ∃ k p, FText (quarterText n) k p := by
  have hr : n.natAbs % 4 ≠ 0 := by
    intro e
    apply h2
    rcases Int.lt_or_le n 0 with hn | hn
    · obtain ⟨a, rfl⟩ : ∃ a : Nat, n = -(a : Int) := ⟨n.natAbs, by omega⟩
      rw [Int.neg_tmod, Int.tmod_eq_emod_of_nonneg (by omega)]
      simp at e
      omega
    · rw [Int.tmod_eq_emod_of_nonneg hn]
      omega
  have hq : n.natAbs / 4 < 1000000000 := by omega
  have hit : itoa ((n.natAbs / 4 : Nat) : Int) = decDigits (n.natAbs / 4) := by
    unfold itoa
    rw [if_neg (by omega)]
    exact congrArg decDigits (Int.toNat_natCast _)
  have hdl : (decDigits (n.natAbs / 4)).length ≤ 10 := dec_len 9 _ (by omega)
  have hne := decDigits_ne (n.natAbs / 4)
  have hdd := digits_digit (n.natAbs / 4)
  have hsg : ∃ sg : List UInt8, (if n < 0 then [45] else []) = sg ∧ (sg = [] ∨ sg = [45]) ∧ sg.length ≤ 1 := by
    by_cases hn : n < 0
    · exact ⟨[45], by simp [hn], .inr rfl, by simp⟩
    · exact ⟨[], by simp [hn], .inl rfl, by simp⟩
  obtain ⟨sg, hsg0, hsg1, hsg2⟩ := hsg
  unfold quarterText
  rw [hit, hsg0]
  have go : ∀ es : List UInt8, Digits es → es.length ≤ 1 → ∃ k p, FText ⟨(sg ++ (decDigits (n.natAbs / 4) ++ 46 :: (es ++ [53]))).toArray⟩ k p := fun es he hel => ⟨_, _, ftext_of sg _ es hsg1 hne hdd he (by omega)⟩
  have hr' : n.natAbs % 4 = 1 ∨ n.natAbs % 4 = 2 ∨ n.natAbs % 4 = 3 := by omega
  rcases hr' with hr' | hr' | hr'
  · rw [hr']
    exact go [50] (by unfold Digits; decide) (by simp)
  · rw [hr']
    exact go [] (by unfold Digits; decide) (by simp)
  · rw [hr']
    exact go [55] (by unfold Digits; decide) (by simp)

theorem ParseFloat_any (n : Int) (w : World) (h0 : -1000000000 < n) (h1 : n < 1000000000) (h2 : n.tmod 4 ≠ 0) (T : Nat) (hT : FT T w) : Calls Tryz.prog 52 #[.string (quarterText n), .int .i64 64] w fun e w' => (∃ f, e = .returned (.tuple #[.float .f64 f, .nilIface])) ∧ Below w.heap.size w w' := by
  obtain ⟨k, p, h⟩ := quarter_text n h0 h1 h2
  exact outer_any _ k p h T w hT
end Go.Proofs.YthdnkcofcbinhaaGreatDoor
