/- The places of an object, in the make (no program's steps here). -/
import Derived.Test.YtkafelcnpnlbfaaDoorRm
namespace Go.Proofs.YtkafelcnpnlbfaaDoor
open Go.RowKit

def ints (n : Nat) : List Value := (List.range n).map fun k : Nat => .int .i64 (k : Int)
structure PInv (w3 : World) (i : Nat) (pv : Value) (wr : World) : Prop where
  box : wr.heap[w3.heap.size + 1]? = some (.cells #[pv] 60 (0, 0))
  row : wr.ownsRow w3.heap.size 3 1 pv i (ints i)
  pbox : pv.ownBlock ≠ some (w3.heap.size + 1)
  below : Below w3.heap.size w3 wr
  size : w3.heap.size + 2 ≤ wr.heap.size

theorem PInv.start (w3 : World) : PInv w3 0 (.slice (some ⟨w3.heap.size, 0, none⟩) 0 0) ((w3.alloc (.cells #[] 3)).alloc (.cells #[.slice (some ⟨w3.heap.size, 0, none⟩) 0 0] 60)) := by
  have e1 : (w3.alloc (.cells #[] 3)).heap.size = w3.heap.size + 1 := by simp
  refine ⟨?_, (World.ownsRow_made w3 #[] 0 (Nat.le_refl _) (by unfold maxLen; omega) rfl).alloc _, by simp [Value.ownBlock], up_alloc (up_alloc (Below.refl _ _) _) _, by simp⟩
  have := blk_new (w3.alloc (.cells #[] 3)) (.cells #[.slice (some ⟨w3.heap.size, 0, none⟩) 0 0] 60)
  rw [e1] at this
  exact this

theorem PInv.step {w3 wr w5 : World} {i gg cap : Nat} {pv : Value} {o : Obj} (I : PInv w3 i pv wr) (hown : w5.ownsRow w3.heap.size 3 1 (.slice (some ⟨gg, 0, none⟩) (i + 1) cap) (i + 1) (ints i ++ [.int .i64 (i : Int)]))
    (hgrow : (wr.alloc o).grownBy w5 pv.ownBlock) (hat : pv.ownBlock = some gg ∨ gg = wr.heap.size + 1) :
    PInv w3 (i + 1) (.slice (some ⟨gg, 0, none⟩) (i + 1) cap) (w5.setCell ⟨w3.heap.size + 1, 0, none⟩ (.slice (some ⟨gg, 0, none⟩) (i + 1) cap)) := by
  have hz := I.size
  have hz3 := hgrow.size
  have hsz : (wr.alloc o).heap.size = wr.heap.size + 1 := by simp
  have hlt := I.row.lt
  have old : ∀ k, k < wr.heap.size → pv.ownBlock ≠ some k → w5.heap[k]? = wr.heap[k]? := fun k h1 h2 => by
    rw [hgrow.block k (by omega) (fun e => h2 e.symm)]
    exact Below.heap_alloc _ _ _ h1
  have ggb : gg ≠ w3.heap.size + 1 := by
    rcases hat with h | h
    · exact fun e => I.pbox (by rw [h, e])
    · omega
  have hfF : ∀ k, k ≠ w3.heap.size + 1 → (w5.setCell ⟨w3.heap.size + 1, 0, none⟩ (.slice (some ⟨gg, 0, none⟩) (i + 1) cap)).heap[k]? = w5.heap[k]? := fun k hk => Below.heap_setCell _ _ _ _ hk
  refine ⟨?_, ?_, by simpa [Value.ownBlock] using ggb, ?_, by simp [World.setCell]; omega⟩
  · have h := (old _ (by omega) I.pbox).trans I.box
    simp only [World.setCell, Array.getElem?_modify, if_true, h]
    rfl
  · have e : ints (i + 1) = ints i ++ [.int .i64 (i : Int)] := by unfold ints; rw [List.range_succ, List.map_append]; rfl
    rw [e]
    exact own_same hown (fun k h => hfF k (by simp only [Value.ownBlock, Option.some.injEq] at h; omega))
  · refine Below.setCell ?_ (by simp) _
    exact Below.grown (I.below.trans ((up_alloc (Below.refl _ _) o).mono I.below.size)) hgrow (by omega) (fun k hk => (hlt k hk).1)
end Go.Proofs.YtkafelcnpnlbfaaDoor
