/- The text of a tree (no program's steps here). -/
import Derived.Test.YtkafelcnpnlbfaaDoorNt
namespace Go.Proofs.YtkafelcnpnlbfaaDoor
open Go.RowKit

def sep (xs : List Dat) : List UInt8 := if xs.isEmpty then [] else [44]
def seqL (f : Dat → List UInt8) (inner : List UInt8) : List Dat → List UInt8
  | [] => []
  | x :: xs => inner ++ (f x ++ (sep xs ++ (10 :: seqL f inner xs)))
def mapL (f : Dat → List UInt8) (inner : List UInt8) : List ByteArray → List Dat → List UInt8
  | k :: ks, x :: xs => inner ++ (34 :: (k.data.toList ++ (34 :: 58 :: 32 :: (f x ++ (sep xs ++ (10 :: mapL f inner ks xs))))))
  | _, _ => []
/-- The text of a Value at an indent. -/
def tx : Nat → List UInt8 → Dat → List UInt8
  | 0, _, _ => []
  | d + 1, ind, v =>
    if v.kind = 1 then (if v.num == 1 then bTrue else bFalse).data.toList
    else if v.kind = 3 then 34 :: (v.text.data.toList ++ [34])
    else if v.kind = 4 then 91 :: 10 :: (seqL (tx d (ind ++ [32, 32])) (ind ++ [32, 32]) v.items ++ (ind ++ [93]))
    else 123 :: 10 :: (mapL (tx d (ind ++ [32, 32])) (ind ++ [32, 32]) v.keys v.items ++ (ind ++ [125]))

theorem tx_scalar {d : Nat} {ind : List UInt8} {v : Dat} {tag val : ByteArray} (h : ScalarOf v tag val) : tx (d + 1) ind v = if tag = tBool then val.data.toList else 34 :: (val.data.toList ++ [34]) := by
  unfold tx
  rcases h with ⟨h1, rfl, rfl⟩ | ⟨h3, rfl, rfl⟩
  · rw [if_pos h1, if_pos rfl]
  · rw [if_neg (by omega), if_pos h3, if_neg (by decide)]
theorem tx_seq {d : Nat} {ind : List UInt8} {v : Dat} (h : v.kind = 4) : tx (d + 1) ind v = 91 :: 10 :: (seqL (tx d (ind ++ [32, 32])) (ind ++ [32, 32]) v.items ++ (ind ++ [93])) := by
  conv => lhs; unfold tx
  rw [if_neg (by omega), if_neg (by omega), if_pos h]
theorem tx_map {d : Nat} {ind : List UInt8} {v : Dat} (h : v.kind = 5) : tx (d + 1) ind v = 123 :: 10 :: (mapL (tx d (ind ++ [32, 32])) (ind ++ [32, 32]) v.keys v.items ++ (ind ++ [125])) := by
  conv => lhs; unfold tx
  rw [if_neg (by omega), if_neg (by omega), if_neg (by omega)]

theorem sep_last {xs : List Dat} {i : Nat} (h : i + 1 = xs.length) : sep (xs.drop (i + 1)) = [] := by
  rw [List.drop_of_length_le (by omega)]
  rfl
theorem sep_more {xs : List Dat} {i : Nat} (h : i + 1 < xs.length) : sep (xs.drop (i + 1)) = [44] := by
  rw [List.drop_eq_getElem_cons h]
  rfl
theorem seqL_at (f : Dat → List UInt8) (inner : List UInt8) {xs : List Dat} {i : Nat} (h : i < xs.length) : seqL f inner (xs.drop i) = inner ++ (f xs[i] ++ (sep (xs.drop (i + 1)) ++ (10 :: seqL f inner (xs.drop (i + 1))))) := by
  rw [List.drop_eq_getElem_cons h]
  rfl
theorem mapL_at (f : Dat → List UInt8) (inner : List UInt8) {ks : List ByteArray} {xs : List Dat} {i : Nat} (h' : i < ks.length) (h : i < xs.length) :
    mapL f inner (ks.drop i) (xs.drop i) = inner ++ (34 :: (ks[i].data.toList ++ (34 :: 58 :: 32 :: (f xs[i] ++ (sep (xs.drop (i + 1)) ++ (10 :: mapL f inner (ks.drop (i + 1)) (xs.drop (i + 1)))))))) := by
  rw [List.drop_eq_getElem_cons h, List.drop_eq_getElem_cons h']
  rfl
theorem seqL_end (f : Dat → List UInt8) (inner : List UInt8) {xs : List Dat} {i : Nat} (h : xs.length ≤ i) : seqL f inner (xs.drop i) = [] := by
  rw [List.drop_of_length_le h]
  rfl
theorem mapL_end (f : Dat → List UInt8) (inner : List UInt8) {ks : List ByteArray} {xs : List Dat} {i : Nat} (h : xs.length ≤ i) : mapL f inner (ks.drop i) (xs.drop i) = [] := by
  rw [List.drop_of_length_le h]
  cases ks.drop i <;> rfl

/-- A string's bytes. -/
abbrev bs (s : ByteArray) : List UInt8 := s.data.toList
theorem bs_app (a b : ByteArray) : bs (a ++ b) = bs a ++ bs b := by simp [bs]
theorem bs_len (a : ByteArray) : (bs a).length = a.size := rfl
/-- A text and what follows of it. -/
def Fits (r : ByteArray) (rest whole : List UInt8) : Prop := bs r ++ rest = whole
theorem Fits.size {r : ByteArray} {rest whole : List UInt8} (h : Fits r rest whole) : r.size + rest.length = whole.length := by
  have := congrArg List.length h
  simpa [bs_len] using this
theorem Fits.add {r s : ByteArray} {rest whole : List UInt8} (h : Fits r (bs s ++ rest) whole) : Fits (r ++ s) rest whole := by
  unfold Fits at *
  rw [bs_app, List.append_assoc]
  exact h
theorem Fits.app {r s : ByteArray} {L rest whole : List UInt8} (h : Fits r L whole) (e : L = bs s ++ rest) : Fits (r ++ s) rest whole := Fits.add (e ▸ h)

/-- What a child's node is. -/
theorem NodeOf.parts {S : Nat → Prop} {w : World} {D : Nat} {x : Dat} {n : Nat} (h : NodeOf S w D x n) :
    (∃ D' val, D = D' + 1 ∧ ScalarOf x tBool val ∧ w.heap[n]? = some (nodeBlk 8 tBool val (.slice none 0 0))) ∨ (∃ D' val, D = D' + 1 ∧ ScalarOf x tStr val ∧ w.heap[n]? = some (nodeBlk 8 tStr val (.slice none 0 0))) ∨
    (x.kind = 4 ∧ ∃ c, w.heap[n]? = some (nodeBlk 2 tSeq ⟨#[]⟩ c)) ∨ (x.kind = 5 ∧ ∃ c, w.heap[n]? = some (nodeBlk 4 tMap ⟨#[]⟩ c)) := by
  cases D with
  | zero => exact h.elim
  | succ D =>
    obtain ⟨_, ⟨tag, val, h1, h2⟩ | ⟨h1, A, c, h2, _⟩ | ⟨h1, _, A, c, h2, _⟩⟩ := h
    · rcases h1 with ⟨h3, rfl, h4⟩ | ⟨h3, rfl, h4⟩
      · exact .inl ⟨D, val, rfl, .inl ⟨h3, rfl, h4⟩, h2⟩
      · exact .inr (.inl ⟨D, val, rfl, .inr ⟨h3, rfl, h4⟩, h2⟩)
    · exact .inr (.inr (.inl ⟨h1, _, h2⟩))
    · exact .inr (.inr (.inr ⟨h1, _, h2⟩))
theorem tx_bool {d : Nat} {ind : List UInt8} {v : Dat} {val : ByteArray} (h : ScalarOf v tBool val) : tx (d + 1) ind v = bs val := by rw [tx_scalar h, if_pos rfl]
theorem tx_str {d : Nat} {ind : List UInt8} {v : Dat} {val : ByteArray} (h : ScalarOf v tStr val) : tx (d + 1) ind v = 34 :: (bs val ++ [34]) := by rw [tx_scalar h, if_neg (by decide)]
end Go.Proofs.YtkafelcnpnlbfaaDoor
