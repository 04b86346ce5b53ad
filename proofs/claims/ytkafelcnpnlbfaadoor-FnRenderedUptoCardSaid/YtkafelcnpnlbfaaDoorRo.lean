/- The object that is given back, in the make (no program's steps here). -/
import Derived.Test.YtkafelcnpnlbfaaDoorRp
namespace Go.Proofs.YtkafelcnpnlbfaaDoor
open Go.RowKit

structure OInv (w4 : World) (ks : List ByteArray) (css : List (List Value)) (i j : Nat) (kv cv : Value) (wr : World) : Prop where
  out : wr.heap[w4.heap.size]? = some (outBlk 5 kv cv)
  krow : wr.ownsRow (w4.heap.size + 1) 9 1 kv i ((ks.take i).map Value.string)
  irow : wr.ownsRow (w4.heap.size + 1) 25 5 cv j (css.take j).flatten
  apart : ∀ k, kv.ownBlock = some k → cv.ownBlock ≠ some k
  below : Below w4.heap.size w4 wr
  size : w4.heap.size + 1 ≤ wr.heap.size

theorem OInv.start (w4 : World) (ks : List ByteArray) (css : List (List Value)) : OInv w4 ks css 0 0 (.slice none 0 0) (.slice none 0 0) (w4.alloc (outBlk 5 (.slice none 0 0) (.slice none 0 0))) :=
  ⟨blk_new w4 _, World.ownsRow_nil _ _ _ _, World.ownsRow_nil _ _ _ _, fun k h => by simp [Value.ownBlock] at h, up_alloc (Below.refl _ _) _, by simp⟩

theorem OInv.up {w4 wr w5 : World} {ks : List ByteArray} {css : List (List Value)} {i j : Nat} {kv cv : Value} (I : OInv w4 ks css i j kv cv wr) (h : Below wr.heap.size wr w5) : OInv w4 ks css i j kv cv w5 :=
  ⟨blk_up I.out h, own_up I.krow h, own_up I.irow h, I.apart, I.below.trans (h.mono I.below.size), Nat.le_trans I.size h.size⟩

theorem OInv.key {w4 wr w5 : World} {ks : List ByteArray} {css : List (List Value)} {i j gg cap : Nat} {kv cv : Value} {o : Obj} (I : OInv w4 ks css i j kv cv wr) (hi : i < ks.length)
    (hown : w5.ownsRow (w4.heap.size + 1) 9 1 (.slice (some ⟨gg, 0, none⟩) (i + 1) cap) (i + 1) ((ks.take i).map Value.string ++ [.string ks[i]])) (hgrow : (wr.alloc o).grownBy w5 kv.ownBlock) (hat : kv.ownBlock = some gg ∨ gg = wr.heap.size + 1) :
    OInv w4 ks css (i + 1) j (.slice (some ⟨gg, 0, none⟩) (i + 1) cap) cv (w5.setCell ⟨w4.heap.size, 3, none⟩ (.slice (some ⟨gg, 0, none⟩) (i + 1) cap)) := by
  have hz := I.size
  have hz3 := hgrow.size
  have hsz : (wr.alloc o).heap.size = wr.heap.size + 1 := by simp
  have hkl := I.krow.lt
  have hil := I.irow.lt
  have old : ∀ k, k < wr.heap.size → kv.ownBlock ≠ some k → w5.heap[k]? = wr.heap[k]? := fun k h1 h2 => by
    rw [hgrow.block k (by omega) (fun e => h2 e.symm)]
    exact Below.heap_alloc _ _ _ h1
  have hfF : ∀ k, k ≠ w4.heap.size → (w5.setCell ⟨w4.heap.size, 3, none⟩ (.slice (some ⟨gg, 0, none⟩) (i + 1) cap)).heap[k]? = w5.heap[k]? := fun k hk => Below.heap_setCell _ _ _ _ hk
  refine ⟨?_, ?_, ?_, ?_, ?_, by simp [World.setCell]; omega⟩
  · have h := (old _ (by omega) (fun e => by have := (hkl _ e).1; omega)).trans I.out
    simp only [World.setCell, Array.getElem?_modify, if_true, h]
    rfl
  · rw [List.take_succ_eq_append_getElem hi, List.map_append]
    exact own_same hown (fun k h => hfF k (by have := (hown.lt k h).1; omega))
  · refine own_same I.irow (fun k h => ?_)
    rw [hfF k (by have := (hil k h).1; omega), old k (hil k h).2 (fun e => I.apart k e h)]
  · intro k h hc
    simp only [Value.ownBlock, Option.some.injEq] at h
    subst h
    rcases hat with h2 | h2
    · exact I.apart _ h2 hc
    · have := (hil _ hc).2; omega
  · refine Below.setCell ?_ (by simp) _
    exact Below.grown (I.below.trans ((up_alloc (Below.refl _ _) o).mono I.below.size)) hgrow (by omega) (fun k hk => by have := (hkl k hk).1; omega)

theorem OInv.item {w4 wr w5 : World} {ks : List ByteArray} {css : List (List Value)} {i j gg cap : Nat} {kv cv : Value} {o : Obj} (I : OInv w4 ks css i j kv cv wr) (hj : j < css.length)
    (hown : w5.ownsRow (w4.heap.size + 1) 25 5 (.slice (some ⟨gg, 0, none⟩) (j + 1) cap) (j + 1) ((css.take j).flatten ++ css[j])) (hgrow : (wr.alloc o).grownBy w5 cv.ownBlock) (hat : cv.ownBlock = some gg ∨ gg = wr.heap.size + 1) :
    OInv w4 ks css i (j + 1) kv (.slice (some ⟨gg, 0, none⟩) (j + 1) cap) (w5.setCell ⟨w4.heap.size, 4, none⟩ (.slice (some ⟨gg, 0, none⟩) (j + 1) cap)) := by
  have hz := I.size
  have hz3 := hgrow.size
  have hsz : (wr.alloc o).heap.size = wr.heap.size + 1 := by simp
  have hkl := I.krow.lt
  have hil := I.irow.lt
  have old : ∀ k, k < wr.heap.size → cv.ownBlock ≠ some k → w5.heap[k]? = wr.heap[k]? := fun k h1 h2 => by
    rw [hgrow.block k (by omega) (fun e => h2 e.symm)]
    exact Below.heap_alloc _ _ _ h1
  have hfF : ∀ k, k ≠ w4.heap.size → (w5.setCell ⟨w4.heap.size, 4, none⟩ (.slice (some ⟨gg, 0, none⟩) (j + 1) cap)).heap[k]? = w5.heap[k]? := fun k hk => Below.heap_setCell _ _ _ _ hk
  refine ⟨?_, ?_, ?_, ?_, ?_, by simp [World.setCell]; omega⟩
  · have h := (old _ (by omega) (fun e => by have := (hil _ e).1; omega)).trans I.out
    simp only [World.setCell, Array.getElem?_modify, if_true, h]
    rfl
  · refine own_same I.krow (fun k h => ?_)
    rw [hfF k (by have := (hkl k h).1; omega), old k (hkl k h).2 (fun e => I.apart k h e)]
  · rw [List.take_succ_eq_append_getElem hj, List.flatten_append]
    simp only [List.flatten_cons, List.flatten_nil, List.append_nil]
    exact own_same hown (fun k h => hfF k (by have := (hown.lt k h).1; omega))
  · intro k h hc
    simp only [Value.ownBlock, Option.some.injEq] at hc
    subst hc
    rcases hat with h2 | h2
    · exact I.apart _ h h2
    · have := (hkl _ h).2; omega
  · refine Below.setCell ?_ (by simp) _
    exact Below.grown (I.below.trans ((up_alloc (Below.refl _ _) o).mono I.below.size)) hgrow (by omega) (fun k hk => by have := (hil k hk).1; omega)
end Go.Proofs.YtkafelcnpnlbfaaDoor
