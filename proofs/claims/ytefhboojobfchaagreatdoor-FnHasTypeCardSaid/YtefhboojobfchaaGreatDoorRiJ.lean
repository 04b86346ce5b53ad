/- Keys that rise: which of two is less (no program's steps here). -/
import Derived.Test.YtefhboojobfchaaGreatDoorSp2J
import Derived.Sort.Walk0
set_option linter.unusedVariables false
set_option linter.unusedSimpArgs false
namespace Go.Proofs.YtefhboojobfchaaGreatDoor
open Go.RowKit

theorem less_trans {x y z : List UInt8} (h : Op.bytesLess x y = true) (k : Op.bytesLess y z = true) : Op.bytesLess x z = true := by
  rw [Go.Proofs.bytesLess_eq] at h k ⊢
  simp only [decide_eq_true_eq] at h k ⊢
  exact List.lt_trans h k
theorem less_irrefl (x : List UInt8) : Op.bytesLess x x = false := by
  rw [Go.Proofs.bytesLess_eq]
  simp only [decide_eq_false_iff_not]
  exact List.lt_irrefl x

theorem keys_rise {v : Dat} (h : KeysTo v v.keys.length) (f : Nat → ByteArray) (hf : ∀ a (ha : a < v.keys.length), f a = v.keys[a]) : ∀ a b, a < v.keys.length → b < v.keys.length → Op.bytesLess (f a).toList (f b).toList = decide (a < b) := by
  have up : ∀ d a, a + d + 1 < v.keys.length → Op.bytesLess (f a).toList (f (a + d + 1)).toList = true := by
    intro d
    induction d with
    | zero =>
      intro a ha
      have := (h (a + 1) (by omega) (by omega)).2 (by omega)
      rw [hf a (by omega), hf (a + 0 + 1) (by omega)]
      simpa using this
    | succ d ih =>
      intro a ha
      have h1 := ih a (by omega)
      have h2 := (h (a + d + 1 + 1) (by omega) (by omega)).2 (by omega)
      rw [hf (a + d + 1) (by omega)] at h1
      rw [hf (a + (d + 1) + 1) (by omega)]
      exact less_trans h1 h2
  intro a b ha hb
  rcases Nat.lt_trichotomy a b with hab | rfl | hab
  · rw [decide_eq_true hab]
    have := up (b - a - 1) a (by omega)
    rwa [show a + (b - a - 1) + 1 = b by omega] at this
  · rw [less_irrefl]
    simp
  · rw [decide_eq_false (by omega)]
    have := up (a - b - 1) b (by omega)
    rw [show b + (a - b - 1) + 1 = a by omega] at this
    cases hq : Op.bytesLess (f a).toList (f b).toList
    · rfl
    · have := less_trans this hq
      rw [less_irrefl] at this
      cases this
end Go.Proofs.YtefhboojobfchaaGreatDoor
