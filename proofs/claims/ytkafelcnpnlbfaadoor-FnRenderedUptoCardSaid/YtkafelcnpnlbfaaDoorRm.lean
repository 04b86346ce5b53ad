/- An object in the make: its keys and items (no program's steps here). -/
import Derived.Test.YtkafelcnpnlbfaaDoorRd5
namespace Go.Proofs.YtkafelcnpnlbfaaDoor
open Go.RowKit

/-- The blocks that no item lies in. -/
def MX (g b5 : Nat) (kv : Value) (k : Nat) : Prop := k = g ∨ k = b5 ∨ kv.ownBlock = some k

structure MInv (w : World) (g B b5 : Nat) (ks : List ByteArray) (its : List Dat) (i j : Nat) (kv cv : Value) (css : List (List Value)) (wr : World) : Prop where
  box : wr.heap[b5]? = some (.cells #[kv] 22 (0, 0))
  keys : wr.ownsRow B 9 1 kv i ((ks.take i).map Value.string)
  kbox : kv.ownBlock ≠ some b5
  row : Row B its (MX g b5 kv) j cv css wr
  cown : ∀ k, cv.ownBlock = some k → ¬ MX g b5 kv k
  zero : wr.heap[w.heap.size]? = some (outBlk 0 (.slice none 0 0) (.slice none 0 0))
  grown : w.grownBy wr (some g)
  size : b5 + 1 ≤ wr.heap.size

theorem own_same {w w1 : World} {base : Nat} {e : TypeId} {size : Nat} {v : Value} {n : Nat} {xs : List Value} (h : w.ownsRow base e size v n xs) (hk : ∀ k, v.ownBlock = some k → w1.heap[k]? = w.heap[k]?) : w1.ownsRow base e size v n xs := by
  obtain ⟨h1, h2⟩ := h
  refine ⟨h1, h2.imp id ?_⟩
  rintro ⟨q, cap, cur, hv, hq, hh, r⟩
  exact ⟨q, cap, cur, hv, hq, (hk q (by rw [hv]; rfl)).trans hh, r⟩

theorem MInv.keep {w wr w1 : World} {g B b5 i j : Nat} {ks : List ByteArray} {its : List Dat} {kv cv : Value} {css : List (List Value)} (I : MInv w g B b5 ks its i j kv cv css wr) (hk : wr.grownBy w1 (some g)) (hg : g < w.heap.size) (hB : w.heap.size < B) (hb : B ≤ b5) :
    MInv w g B b5 ks its i j kv cv css w1 := by
  have hz := I.size
  have hz1 := hk.size
  have hkl := I.keys.lt
  have same : ∀ k, k < wr.heap.size → k ≠ g → w1.heap[k]? = wr.heap[k]? := fun k h1 h2 => hk.block k h1 (by simpa using h2)
  exact ⟨(same _ (by omega) (by omega)).trans I.box, own_same I.keys (fun k h => same k (hkl k h).2 (by have := (hkl k h).1; omega)), I.kbox,
    I.row.keep hz1 (fun k _ h2 h3 => same k h2 (fun e => h3 (.inl e))) (fun _ _ h => h) I.cown, I.cown, (same _ (by omega) (by omega)).trans I.zero, grown_trans I.grown hk, by omega⟩

/-- One key more. -/
theorem MInv.key {w wr w3 : World} {g B b5 i j gg cap : Nat} {ks : List ByteArray} {its : List Dat} {kv cv : Value} {css : List (List Value)} {o : Obj} (I : MInv w g B b5 ks its i j kv cv css wr) (hi : i < ks.length) (hg : g < w.heap.size) (hB : w.heap.size < B) (hb : B ≤ b5)
    (hown3 : w3.ownsRow B 9 1 (.slice (some ⟨gg, 0, none⟩) (i + 1) cap) (i + 1) ((ks.take i).map Value.string ++ [.string ks[i]])) (hgrow : (wr.alloc o).grownBy w3 kv.ownBlock) (hat : kv.ownBlock = some gg ∨ gg = wr.heap.size + 1) :
    MInv w g B b5 ks its (i + 1) j (.slice (some ⟨gg, 0, none⟩) (i + 1) cap) cv css (w3.setCell ⟨b5, 0, none⟩ (.slice (some ⟨gg, 0, none⟩) (i + 1) cap)) ∧ (w3.setCell ⟨b5, 0, none⟩ (.slice (some ⟨gg, 0, none⟩) (i + 1) cap)).heap[g]? = wr.heap[g]? := by
  have hz := I.size
  have hz3 := hgrow.size
  have hsz : (wr.alloc o).heap.size = wr.heap.size + 1 := by simp
  have hkl := I.keys.lt
  have hcl := I.row.own.lt
  have old : ∀ k, k < wr.heap.size → kv.ownBlock ≠ some k → w3.heap[k]? = wr.heap[k]? := fun k h1 h2 => by
    rw [hgrow.block k (by omega) (fun e => h2 e.symm)]
    exact Below.heap_alloc _ _ _ h1
  have ggb : gg ≠ b5 := by
    rcases hat with h | h
    · exact fun e => I.kbox (by rw [h, e])
    · omega
  have hzF : (w3.setCell ⟨b5, 0, none⟩ (.slice (some ⟨gg, 0, none⟩) (i + 1) cap)).heap.size = w3.heap.size := by simp [World.setCell]
  have hfF : ∀ k, k ≠ b5 → (w3.setCell ⟨b5, 0, none⟩ (.slice (some ⟨gg, 0, none⟩) (i + 1) cap)).heap[k]? = w3.heap[k]? := fun k hk => Below.heap_setCell _ _ _ _ hk
  have hX : ∀ k, k < wr.heap.size → MX g b5 (.slice (some ⟨gg, 0, none⟩) (i + 1) cap) k → MX g b5 kv k := by
    rintro k h1 (h | h | h)
    · exact .inl h
    · exact .inr (.inl h)
    · simp only [Value.ownBlock, Option.some.injEq] at h
      rcases hat with h2 | h2
      · exact .inr (.inr (by rw [h2, h]))
      · omega
  have hlow : ∀ k, k < B → kv.ownBlock ≠ some k := fun k h e => by have := (hkl k e).1; omega
  refine ⟨⟨?_, ?_, by simpa [Value.ownBlock] using ggb, ?_, fun k h hx => I.cown k h (hX k (hcl k h).2 hx), ?_, ?_, by omega⟩, ?_⟩
  · have h := (old b5 (by omega) I.kbox).trans I.box
    simp only [World.setCell, Array.getElem?_modify, if_true, h]
    rfl
  · rw [List.take_succ_eq_append_getElem hi, List.map_append]
    exact own_same hown3 (fun k h => hfF k (by simp only [Value.ownBlock, Option.some.injEq] at h; omega))
  · refine I.row.keep (by omega) (fun k _ h2 h3 => ?_) hX I.cown
    rw [hfF k (fun e => h3 (.inr (.inl e))), old k h2 (fun e => h3 (.inr (.inr e)))]
  · rw [hfF _ (by omega), old _ (by omega) (hlow _ hB)]
    exact I.zero
  · refine ⟨hgrow.os.trans I.grown.os, hgrow.tape.trans I.grown.tape, hgrow.output.trans I.grown.output, by have := I.grown.size; omega, fun k hk hn => ?_⟩
    rw [hfF _ (by omega), old _ (by have := I.grown.size; omega) (hlow _ (by omega))]
    exact I.grown.block k hk hn
  · rw [hfF _ (by omega), old _ (by omega) (hlow _ (by omega))]

/-- One item more. -/
theorem MInv.item {w wr w1 w3 : World} {g B b5 i j gg cap : Nat} {ks : List ByteArray} {its : List Dat} {kv cv : Value} {css : List (List Value)} {cs : List Value} {o : Obj} (I : MInv w g B b5 ks its i j kv cv css wr) (hj : j < its.length) (hg : g < w.heap.size) (hB : w.heap.size < B) (hb : B ≤ b5)
    (hk1 : wr.grownBy w1 (some g)) (hv : VA (onS w1 fun k => wr.heap.size ≤ k ∧ k < w1.heap.size) its[j] cs)
    (hown3 : w3.ownsRow B 25 5 (.slice (some ⟨gg, 0, none⟩) (j + 1) cap) (j + 1) (css.flatten ++ cs)) (hgrow : (w1.alloc o).grownBy w3 cv.ownBlock) (hat : cv.ownBlock = some gg ∨ gg = w1.heap.size + 1) :
    MInv w g B b5 ks its i (j + 1) kv (.slice (some ⟨gg, 0, none⟩) (j + 1) cap) (css ++ [cs]) w3 ∧ w3.heap[g]? = w1.heap[g]? := by
  have hz := I.size
  have hz1 := hk1.size
  have hz3 := hgrow.size
  have hsz : (w1.alloc o).heap.size = w1.heap.size + 1 := by simp
  have hkl := I.keys.lt
  have hcl := I.row.own.lt
  have I1 := I.keep hk1 hg hB hb
  have old : ∀ k, k < w1.heap.size → cv.ownBlock ≠ some k → w3.heap[k]? = w1.heap[k]? := fun k h1 h2 => by
    rw [hgrow.block k (by omega) (fun e => h2 e.symm)]
    exact Below.heap_alloc _ _ _ h1
  have hlow : ∀ k, k < B → cv.ownBlock ≠ some k := fun k h e => by have := (hcl k e).1; omega
  have hXn : ∀ k, wr.heap.size ≤ k → ¬ MX g b5 kv k := by
    rintro k h1 (h | h | h)
    · have := I.grown.size; omega
    · omega
    · have := (hkl k h).2; omega
  refine ⟨⟨(old b5 (by omega) (fun e => I.cown _ e (.inr (.inl rfl)))).trans I1.box, own_same I1.keys (fun k h => old k (by have := (hkl k h).2; omega) (fun e => I.cown _ e (.inr (.inr h)))), I.kbox,
    I.row.step hj (by omega) hXn hz1 (fun k _ h2 h3 => hk1.block k h2 (by simp; exact fun e => h3 (.inl e))) hv hown3 hgrow hat, ?_, (old _ (by omega) (hlow _ hB)).trans I1.zero, ?_, by omega⟩, old g (by have := I.grown.size; omega) (hlow _ (by omega))⟩
  · intro k h hx
    simp only [Value.ownBlock, Option.some.injEq] at h
    subst h
    rcases hat with h2 | h2
    · exact I.cown _ h2 hx
    · exact hXn _ (by omega) hx
  · refine ⟨hgrow.os.trans I1.grown.os, hgrow.tape.trans I1.grown.tape, hgrow.output.trans I1.grown.output, by have := I1.grown.size; omega, fun k hk hn => ?_⟩
    rw [old _ (by have := I1.grown.size; omega) (hlow _ (by omega))]
    exact I1.grown.block k hk hn
end Go.Proofs.YtkafelcnpnlbfaaDoor
