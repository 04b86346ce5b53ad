/- strconv.ParseFloat at a number of quarters. -/
import Derived.Test.YtefhboojobfchaaGreatDoorMpJ
import Derived.Test.YtefhboojobfchaaGreatDoorPf2J
import Derived.Test.YtefhboojobfchaaGreatDoorPiJ
set_option linter.unusedVariables false
set_option linter.unusedSimpArgs false
namespace Go.Proofs.YtefhboojobfchaaGreatDoor
open Go.RowKit Go.Lib

theorem ba_get {L : List UInt8} {i : Nat} {c : UInt8} (hc : L[i]? = some c) (h : i < (⟨L.toArray⟩ : ByteArray).size) : (((⟨L.toArray⟩ : ByteArray)[i]'h).toNat : Int) = (c.toNat : Int) := by
  have e : (⟨L.toArray⟩ : ByteArray)[i]'h = L[i]'(by exact h) := rfl
  rw [e]
  obtain ⟨h1, h2⟩ := List.getElem?_eq_some_iff.1 hc
  rw [h2]

def Digits (l : List UInt8) : Prop := ∀ c ∈ l, 48 ≤ c.toNat ∧ c.toNat ≤ 57

theorem ftext_of (sg ds es : List UInt8) (hsg : sg = [] ∨ sg = [45]) (hds : ds ≠ []) (hd : Digits ds) (hed : Digits es) (hlen : sg.length + (ds.length + (es.length + 2)) ≤ 15) :
    FText ⟨(sg ++ (ds ++ 46 :: (es ++ [53]))).toArray⟩ sg.length (sg.length + ds.length) := by
  have hdl : 0 < ds.length := List.length_pos_iff.2 hds
  have hs : (⟨(sg ++ (ds ++ 46 :: (es ++ [53]))).toArray⟩ : ByteArray).size = sg.length + (ds.length + (es.length + 2)) := by
    show (sg ++ (ds ++ 46 :: (es ++ [53]))).toArray.size = _
    simp
  have at2 : ∀ i, sg.length + ds.length ≤ i → (sg ++ (ds ++ 46 :: (es ++ [53])))[i]? = (46 :: (es ++ [53]))[i - sg.length - ds.length]? := fun i hi => by
    rw [List.getElem?_append_right (by omega), List.getElem?_append_right (by omega)]
  have at1 : ∀ i, sg.length ≤ i → i < sg.length + ds.length → (sg ++ (ds ++ 46 :: (es ++ [53])))[i]? = ds[i - sg.length]? := fun i hi hi2 => by
    rw [List.getElem?_append_right (by omega), List.getElem?_append_left (by omega)]
  refine ⟨by omega, by omega, by omega, ?_, fun i h hi hip => ?_, fun h => ?_, fun h => ?_⟩
  · rcases hsg with rfl | rfl
    · exact .inl rfl
    · exact .inr ⟨rfl, fun h => ba_get (c := 45) rfl h⟩
  · rw [hs] at h
    rcases Nat.lt_or_ge i (sg.length + ds.length) with h1 | h1
    · have hg := at1 i hi h1
      rw [List.getElem?_eq_getElem (l := ds) (by omega)] at hg
      rw [ba_get hg]
      have := hd _ (List.getElem_mem (by omega : i - sg.length < ds.length))
      omega
    · have hg := at2 i h1
      obtain ⟨j, hj⟩ : ∃ j, i - sg.length - ds.length = j + 1 := ⟨i - sg.length - ds.length - 1, by omega⟩
      rw [hj, List.getElem?_cons_succ] at hg
      rcases Nat.lt_or_ge j es.length with h2 | h2
      · rw [List.getElem?_append_left h2, List.getElem?_eq_getElem h2] at hg
        rw [ba_get hg]
        have := hed _ (List.getElem_mem h2)
        omega
      · obtain rfl : j = es.length := by omega
        rw [List.getElem?_append_right (Nat.le_refl _), Nat.sub_self] at hg
        rw [ba_get (c := 53) hg]
        decide
  · have hg := at2 (sg.length + ds.length) (Nat.le_refl _)
    rw [show sg.length + ds.length - sg.length - ds.length = 0 by omega] at hg
    exact ba_get (c := 46) hg h
  · rw [hs] at h
    have hg := at2 (sg.length + (ds.length + (es.length + 2)) - 1) (by omega)
    rw [show sg.length + (ds.length + (es.length + 2)) - 1 - sg.length - ds.length = es.length + 1 by omega, List.getElem?_cons_succ, List.getElem?_append_right (Nat.le_refl _), Nat.sub_self] at hg
    have e := ba_get (c := 53) hg (by rw [hs]; exact h)
    simp only [hs]
    rw [e]
    decide

theorem dec_len : ∀ (k u : Nat), u < 10 ^ (k + 1) → (decDigits u).length ≤ k + 1 := by
  intro k
  induction k with
  | zero =>
    intro u hu
    rw [decDigits]
    split
    · simp
    · omega
  | succ k ih =>
    intro u hu
    rw [decDigits]
    split
    · simp
    · have := ih (u / 10) (by rw [Nat.pow_succ] at hu; omega)
      simp
      omega

theorem quarter_text (n : Int) (h0 : -1000000000 < n) (h1 : n < 1000000000) (h2 : n.tmod 4 ≠ 0) : ∃ k p, FText (quarterText n) k p := by
  have hr : n.natAbs % 4 ≠ 0 := by
    intro e
    apply h2
    rcases Int.lt_or_le n 0 with hn | hn
    · obtain ⟨a, rfl⟩ : ∃ a : Nat, n = -(a : Int) := ⟨n.natAbs, by omega⟩
      rw [Int.neg_tmod, Int.tmod_eq_emod_of_nonneg (by omega)]
      simp at e
      omega
    · rw [Int.tmod_eq_emod_of_nonneg hn]
      omega
  have hq : n.natAbs / 4 < 1000000000 := by omega
  have hit : itoa ((n.natAbs / 4 : Nat) : Int) = decDigits (n.natAbs / 4) := by
    unfold itoa
    rw [if_neg (by omega)]
    exact congrArg decDigits (Int.toNat_natCast _)
  have hdl : (decDigits (n.natAbs / 4)).length ≤ 10 := dec_len 9 _ (by omega)
  have hne := decDigits_ne (n.natAbs / 4)
  have hdd := digits_digit (n.natAbs / 4)
  have hsg : ∃ sg : List UInt8, (if n < 0 then [45] else []) = sg ∧ (sg = [] ∨ sg = [45]) ∧ sg.length ≤ 1 := by
    by_cases hn : n < 0
    · exact ⟨[45], by simp [hn], .inr rfl, by simp⟩
    · exact ⟨[], by simp [hn], .inl rfl, by simp⟩
  obtain ⟨sg, hsg0, hsg1, hsg2⟩ := hsg
  unfold quarterText
  rw [hit, hsg0]
  have go : ∀ es : List UInt8, Digits es → es.length ≤ 1 → ∃ k p, FText ⟨(sg ++ (decDigits (n.natAbs / 4) ++ 46 :: (es ++ [53]))).toArray⟩ k p := fun es he hel => ⟨_, _, ftext_of sg _ es hsg1 hne hdd he (by omega)⟩
  have hr' : n.natAbs % 4 = 1 ∨ n.natAbs % 4 = 2 ∨ n.natAbs % 4 = 3 := by omega
  rcases hr' with hr' | hr' | hr'
  · rw [hr']
    exact go [50] (by unfold Digits; decide) (by simp)
  · rw [hr']
    exact go [] (by unfold Digits; decide) (by simp)
  · rw [hr']
    exact go [55] (by unfold Digits; decide) (by simp)

theorem ParseFloat_any (n : Int) (w : World) (h0 : -1000000000 < n) (h1 : n < 1000000000) (h2 : n.tmod 4 ≠ 0) (T : Nat) (hT : FT T w) : Calls Tryz.prog 43 #[.string (quarterText n), .int .i64 64] w fun e w' => (∃ f, e = .returned (.tuple #[.float .f64 f, .nilIface])) ∧ Below w.heap.size w w' := by
  obtain ⟨k, p, h⟩ := quarter_text n h0 h1 h2
  exact outer_any _ k p h T w hT
end Go.Proofs.YtefhboojobfchaaGreatDoor
