/- NewSchemaFromObject: a schema in the make (no program's steps here). -/
import Derived.Test.YtefhboojobfchaaGreatDoorBs3J
import Derived.Test.YtefhboojobfchaaGreatDoorBs6J
import Derived.Test.YtefhboojobfchaaGreatDoorBs7J
import Derived.Test.YtefhboojobfchaaGreatDoorBs8J
set_option linter.unusedVariables false
set_option linter.unusedSimpArgs false
namespace Go.Proofs.YtefhboojobfchaaGreatDoor
open Go.RowKit

/-- A schema in the make: i keys are read. -/
structure NInv (w : World) (B m D : Nat) (v : Dat) (i : Nat) (wr : World) : Prop where
  cells : ∃ cs : Array Value, wr.heap[w.heap.size]? = some (.cells cs 55 (0, 0)) ∧ cs.size = 37 ∧ cs[0]? = some (.map (some m)) ∧ cs[4]? = some (.pointer none) ∧ cs[5]? = some (.pointer none) ∧
    ∀ y ∈ kws, 0 < y.2.2 → ∃ f, cs[y.2.2]? = some f ∧
      ((∃ (j : Nat) (h : j < v.keys.length) (h' : j < v.items.length), j < i ∧ v.keys[j] = y.1 ∧ FieldOk (fun k => (k < B ∧ k ≠ m) ∨ (w.heap.size < k ∧ k < wr.heap.size)) wr (Sch (fun k => (k < B ∧ k ≠ m) ∨ (w.heap.size < k ∧ k < wr.heap.size)) wr D) y.2.1 v.items[j] f) ∨
        ((∀ (j : Nat) (h : j < v.keys.length), j < i → v.keys[j] ≠ y.1) ∧ f = .pointer none))
  grown : w.grownBy wr (some m)
  map : MapOk Tryz.prog 9 wr m
  size : w.heap.size + 1 ≤ wr.heap.size

theorem kws_inj : ∀ x ∈ kws, ∀ y ∈ kws, 0 < x.2.2 → x.2.2 = y.2.2 → x.1 = y.1 := by unfold kws; decide
theorem kws_code : ∀ x ∈ kws, ∀ y ∈ kws, 0 < x.2.2 → x.2.2 = y.2.2 → x.2.1 = y.2.1 := by unfold kws; decide
theorem kws_key : ∀ x ∈ kws, ∀ y ∈ kws, 0 < x.2.2 → 0 < y.2.2 → x.1 = y.1 → x.2.2 = y.2.2 := by unfold kws; decide
theorem kws_lt : ∀ x ∈ kws, x.2.2 < 37 ∧ x.2.2 ≠ 4 ∧ x.2.2 ≠ 5 := by unfold kws; decide

/-- The key that is read is no keyword with a field. -/
theorem NInv.skip {w wr : World} {B m D i : Nat} {v : Dat} (I : NInv w B m D v i wr) (hi : i < v.keys.length) (hno : ∀ y ∈ kws, 0 < y.2.2 → v.keys[i] ≠ y.1) : NInv w B m D v (i + 1) wr := by
  obtain ⟨cs, h1, h2, h3, h4, h5, h6⟩ := I.cells
  refine ⟨⟨cs, h1, h2, h3, h4, h5, fun y hy hp => ?_⟩, I.grown, I.map, I.size⟩
  obtain ⟨f, hf, h | h⟩ := h6 y hy hp
  · obtain ⟨j, hj, hj', hji, hk, hok⟩ := h
    exact ⟨f, hf, .inl ⟨j, hj, hj', by omega, hk, hok⟩⟩
  · refine ⟨f, hf, .inr ⟨fun j hj hji => ?_, h.2⟩⟩
    rcases Nat.lt_or_ge j i with h' | h'
    · exact h.1 j hj h'
    · obtain rfl : j = i := by omega
      exact hno y hy hp

/-- A keyword's field is set. -/
theorem NInv.set {w wr w1 : World} {B m D i : Nat} {v : Dat} (I : NInv w B m D v i wr) (hB : B ≤ w.heap.size) (hmB : m < B) (hi : i < v.keys.length) (hi' : i < v.items.length) (x : ByteArray × Nat × Nat) (hx : x ∈ kws) (hx0 : 0 < x.2.2) (hkey : v.keys[i] = x.1)
    {f : Value} (hg : wr.grownBy w1 (some m)) (hm : MapOk Tryz.prog 9 w1 m) (hf : FieldOk (SN B m wr.heap.size w1.heap.size) w1 (Sch (SN B m wr.heap.size w1.heap.size) w1 D) x.2.1 v.items[i] f) :
    NInv w B m D v (i + 1) (w1.setCell ⟨w.heap.size, x.2.2, none⟩ f) := by
  obtain ⟨cs, h1, h2, h3, h4, h5, h6⟩ := I.cells
  have hz := I.size
  have hz1 := hg.size
  have hlt := kws_lt x hx
  have far : ∀ k, k ≠ w.heap.size → (w1.setCell ⟨w.heap.size, x.2.2, none⟩ f).heap[k]? = w1.heap[k]? := fun k hk => Below.heap_setCell _ _ _ _ hk
  have ez : (w1.setCell ⟨w.heap.size, x.2.2, none⟩ f).heap.size = w1.heap.size := by simp [World.setCell]
  have hb1 : w1.heap[w.heap.size]? = some (.cells cs 55 (0, 0)) := (hg.block _ (by omega) (by simp; omega)).trans h1
  have hmv : ∀ k, (k < B ∧ k ≠ m) ∨ (w.heap.size < k ∧ k < wr.heap.size) → (w1.setCell ⟨w.heap.size, x.2.2, none⟩ f).heap[k]? = wr.heap[k]? := fun k hk => by
    rw [far k (by omega)]
    exact hg.block k (by omega) (by simp; omega)
  have hmv1 : ∀ k, SN B m wr.heap.size w1.heap.size k → (w1.setCell ⟨w.heap.size, x.2.2, none⟩ f).heap[k]? = w1.heap[k]? := fun k hk => far k (by rcases hk with h | h <;> omega)
  refine ⟨⟨cs.setIfInBounds x.2.2 f, ?_, by simpa using h2, ?_, ?_, ?_, fun y hy hp => ?_⟩, ?_, hm.same (fun k hk => far k (by omega)), by omega⟩
  · simp only [World.setCell, Array.getElem?_modify, if_true, hb1]
    rfl
  · rw [Array.getElem?_setIfInBounds_ne (by omega)]; exact h3
  · rw [Array.getElem?_setIfInBounds_ne (by omega)]; exact h4
  · rw [Array.getElem?_setIfInBounds_ne (by omega)]; exact h5
  · rw [ez]
    by_cases hxy : x.2.2 = y.2.2
    · refine ⟨f, by rw [← hxy, Array.getElem?_setIfInBounds_self_of_lt (by omega)], .inl ⟨i, hi, hi', by omega, hkey.trans (kws_inj x hx y hy hx0 hxy), ?_⟩⟩
      have hc : x.2.1 = y.2.1 := kws_code x hx y hy hx0 hxy
      rw [← hc]
      exact FieldOk.move hmv1 (fun k hk => by rcases hk with h | h; exact .inl h; exact .inr ⟨by omega, h.2⟩) (fun z k hk => Sch.move hmv1 (fun k hk => by rcases hk with h | h; exact .inl h; exact .inr ⟨by omega, h.2⟩) _ _ _ hk) hf
    · obtain ⟨g, hg', h⟩ := h6 y hy hp
      refine ⟨g, by rw [Array.getElem?_setIfInBounds_ne hxy]; exact hg', ?_⟩
      rcases h with ⟨j, hj, hj', hji, hk, hok⟩ | h
      · exact .inl ⟨j, hj, hj', by omega, hk, FieldOk.move hmv (fun k hk => by rcases hk with h | h; exact .inl h; exact .inr ⟨h.1, by omega⟩) (fun z k hk => Sch.move hmv (fun k hk => by rcases hk with h | h; exact .inl h; exact .inr ⟨h.1, by omega⟩) _ _ _ hk) hok⟩
      · refine .inr ⟨fun j hj hji => ?_, h.2⟩
        rcases Nat.lt_or_ge j i with h' | h'
        · exact h.1 j hj h'
        · obtain rfl : j = i := by omega
          intro e
          exact hxy (kws_key x hx y hy hx0 hp (hkey.symm.trans e))
  · refine ⟨hg.os.trans I.grown.os, hg.tape.trans I.grown.tape, hg.output.trans I.grown.output, by have := I.grown.size; omega, fun k hk hn => ?_⟩
    rw [far k (by omega), hg.block k (by omega) hn]
    exact I.grown.block k hk hn
end Go.Proofs.YtefhboojobfchaaGreatDoor
