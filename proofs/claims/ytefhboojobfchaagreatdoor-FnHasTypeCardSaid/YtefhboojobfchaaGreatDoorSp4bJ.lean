/- Small words on strings, numbers and Values (no program's steps here). -/
import Derived.Test.YtefhboojobfchaaGreatDoorValJ
set_option linter.unusedVariables false
set_option linter.unusedSimpArgs false
namespace Go.Proofs.YtefhboojobfchaaGreatDoor
open Go.RowKit

theorem ret_bool {b c : Bool} (h : b = c) : Ending.returned (.bool b) = .returned (.bool c) := by rw [h]
/-- Whether two Values are one. -/
noncomputable def eqD (a b : Dat) : Bool := @decide (a = b) (Classical.propDecidable _)
theorem eqD_true {a b : Dat} (h : a = b) : eqD a b = true := by unfold eqD; simp [h]
theorem eqD_false {a b : Dat} (h : ¬ a = b) : eqD a b = false := by unfold eqD; simp [h]
theorem eqD_iff {a b : Dat} : eqD a b = true ↔ a = b := by unfold eqD; simp
def IsBool (r : Bool) (w : World) (e : Ending) (w' : World) : Prop := e = .returned (.bool r) ∧ Below w.heap.size w w'
theorem Dat.ext_of {a b : Dat} (h0 : a.kind = b.kind) (h1 : a.num = b.num) (h2 : a.text = b.text) (h3 : a.keys = b.keys) (h4 : a.items = b.items) : a = b := by
  cases a; cases b
  simp only [Dat.kind, Dat.num, Dat.text, Dat.keys, Dat.items] at h0 h1 h2 h3 h4
  subst h0 h1 h2 h3 h4
  rfl
theorem bytes_eq {s t : ByteArray} (h : (s.toList == t.toList) = true) : s = t := by
  have h1 : s.toList = t.toList := by simpa using h
  rw [ByteArray.toList_eq, ByteArray.toList_eq] at h1
  exact ByteArray.ext (Array.ext' h1)
theorem bytes_or (s t : ByteArray) : ((s.toList == t.toList) = true ∧ s = t) ∨ ((s.toList == t.toList) = false ∧ s ≠ t) := by
  cases h : (s.toList == t.toList)
  · exact .inr ⟨rfl, fun e => by simp [e] at h⟩
  · exact .inl ⟨rfl, bytes_eq h⟩
theorem nat_or (m n : Nat) : ((m == n) = true ∧ (m != n) = false ∧ ((m : Int) == (n : Int)) = true ∧ ((m : Int) != (n : Int)) = false ∧ Hid (m = n)) ∨
    ((m == n) = false ∧ (m != n) = true ∧ ((m : Int) == (n : Int)) = false ∧ ((m : Int) != (n : Int)) = true ∧ Hid (m ≠ n)) := by
  by_cases h : m = n
  · exact .inl ⟨beq_iff_eq.mpr h, bne_eq_false_iff_eq.mpr h, beq_iff_eq.mpr (by omega), bne_eq_false_iff_eq.mpr (by omega), h⟩
  · exact .inr ⟨beq_eq_false_iff_ne.mpr h, bne_iff_ne.mpr h, beq_eq_false_iff_ne.mpr (by omega), bne_iff_ne.mpr (by omega), h⟩
theorem int_or (m n : Int) : ((m == n) = true ∧ (m != n) = false ∧ Hid (m = n)) ∨ ((m == n) = false ∧ (m != n) = true ∧ Hid (m ≠ n)) := by
  by_cases h : m = n
  · exact .inl ⟨beq_iff_eq.mpr h, bne_eq_false_iff_eq.mpr h, h⟩
  · exact .inr ⟨beq_eq_false_iff_ne.mpr h, bne_iff_ne.mpr h, h⟩
end Go.Proofs.YtefhboojobfchaaGreatDoor
