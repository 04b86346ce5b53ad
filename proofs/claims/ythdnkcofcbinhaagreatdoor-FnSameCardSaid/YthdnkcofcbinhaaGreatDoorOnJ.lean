/- A map of Values in the make: its keys and its items; Values that lie in given blocks (no program's steps here). -/
import Derived.Test.YthdnkcofcbinhaaGreatDoorGnJ
import Derived.Deep.AppendLies
set_option linter.unusedVariables false
set_option linter.unusedSimpArgs false
namespace Go.Proofs.YthdnkcofcbinhaaGreatDoor
open Go.RowKit
open Classical in
/-- The world, but that blocks outside S hold nothing. -/
noncomputable def onS (w : World) (S : Nat → Prop) : World := { w with heap := w.heap.mapIdx fun k o => if S k then o else .cells #[] 0 (0, 0) }

theorem onS_block {w : World} {S : Nat → Prop} {k : Nat} (h : S k) : (onS w S).heap[k]? = w.heap[k]? := by
  simp only [onS, Array.getElem?_mapIdx, h, if_true]
  cases w.heap[k]? <;> rfl
theorem onS_in {w : World} {S : Nat → Prop} {a : Addr} {u : Value} (h : S a.block) (hc : w.cell? a = some u) : (onS w S).cell? a = some u :=
  (World.cell?_of_block (a := a) (onS_block h)).trans hc
theorem onS_out {w : World} {S : Nat → Prop} {a : Addr} {u : Value} (hc : (onS w S).cell? a = some u) : S a.block ∧ w.cell? a = some u := by
  by_cases h : S a.block
  · exact ⟨h, (World.cell?_of_block (a := a) (onS_block h)).symm.trans hc⟩
  · exfalso
    have e : (onS w S).heap[a.block]? = (w.heap[a.block]?).map fun _ => (.cells #[] 0 (0, 0) : Obj) := by
      simp only [onS, Array.getElem?_mapIdx, h, if_false]
    unfold World.cell? at hc
    rw [e] at hc
    revert hc
    cases w.heap[a.block]? <;> simp
theorem onS_move {w w1 : World} {S T : Nat → Prop} (hb : ∀ k, S k → w1.heap[k]? = w.heap[k]?) (hT : ∀ k, S k → T k) : ∀ a u, (onS w S).cell? a = some u → (onS w1 T).cell? a = some u := by
  intro a u h
  obtain ⟨h1, h2⟩ := onS_out h
  exact onS_in (hT _ h1) ((World.cell?_of_block (a := a) (hb _ h1)).trans h2)
theorem onS_whole {w : World} {S : Nat → Prop} : ∀ a u, (onS w S).cell? a = some u → w.cell? a = some u := fun _ _ h => (onS_out h).2

/-- Cells of a row of Values. -/
theorem flat_at {css : List (List Value)} (h : ∀ cs ∈ css, cs.length = 5) : ∀ (i j : Nat) (hi : i < css.length), j < 5 → css.flatten[i * 5 + j]? = css[i][j]? := by
  induction css with
  | nil => intro i j hi; exact absurd hi (Nat.not_lt_zero _)
  | cons c css ih =>
    intro i j hi hj
    have hc : c.length = 5 := h c (List.mem_cons_self ..)
    cases i with
    | zero =>
      rw [List.flatten_cons, List.getElem?_append_left (by omega)]
      simp
    | succ i =>
      rw [List.flatten_cons, List.getElem?_append_right (by omega), hc, show (i + 1) * 5 + j - 5 = i * 5 + j by omega]
      exact ih (fun cs hcs => h cs (List.mem_cons_of_mem _ hcs)) i j (by simpa using hi) hj
theorem VA.len {w : World} {v : Dat} {cs : List Value} (h : VA w v cs) : cs.length = 5 := by
  obtain ⟨_, _, _, _, rfl⟩ := h.shape
  rfl

theorem own_same {w w1 : World} {base : Nat} {e : TypeId} {size : Nat} {v : Value} {n : Nat} {xs : List Value} (h : w.ownsRow base e size v n xs) (hk : ∀ k, v.ownBlock = some k → w1.heap[k]? = w.heap[k]?) : w1.ownsRow base e size v n xs := by
  obtain ⟨h1, h2⟩ := h
  refine ⟨h1, h2.imp id ?_⟩
  rintro ⟨q, cap, cur, hv, hq, hh, r⟩
  exact ⟨q, cap, cur, hv, hq, (hk q (by rw [hv]; rfl)).trans hh, r⟩

/-- All that lies in a world lies in its blocks. -/
theorem VA.allS {w : World} {v : Dat} {cs : List Value} (h : VA w v cs) : VA (onS w fun k => k < w.heap.size) v cs :=
  h.mono fun a u hc => onS_in (World.block_lt_of_cell? w a hc) hc
theorem VA.ofS {w : World} {S : Nat → Prop} {v : Dat} {cs : List Value} (h : VA (onS w S) v cs) : VA w v cs := h.mono onS_whole
theorem VA.upS {w w1 : World} {S T : Nat → Prop} {v : Dat} {cs : List Value} (h : VA (onS w S) v cs) (hb : ∀ k, S k → w1.heap[k]? = w.heap[k]?) (hT : ∀ k, S k → T k) : VA (onS w1 T) v cs := h.mono (onS_move hb hT)
/-- The items of what lies in given blocks lie there, too. -/
theorem VA.itemsS {w : World} {S : Nat → Prop} {v : Dat} {cs : List Value} (h : VA (onS w S) v cs) : ∃ ka ia kc ic, cs = [.int .i64 v.kind, .int .i64 v.num, .string v.text, .slice ka v.keys.length kc, .slice ia v.items.length ic] ∧ v.text.size ≤ 9223372036854775807 ∧ StrsAt (onS w S) ka v.keys ∧ v.keys.length ≤ kc ∧ kc ≤ 9223372036854775807 ∧
      v.items.length ≤ ic ∧ ic ≤ 9223372036854775807 ∧ ∀ i, ItemAt (onS w S) ia v i := h.inv

/-- The block of a Value in the make. -/
def outBlk (kind : Int) (kv cv : Value) : Obj := .cells #[.int .i64 kind, .int .i64 0, .string ⟨#[]⟩, kv, cv] 25 (0, 0)

/-- A Value in the make: its keys, its items so far. S: the blocks, all of them below the base, in which the items may lie, beside those made since. -/
structure ZInv (w : World) (S : Nat → Prop) (ob : Nat) (kind : Int) (ks : List ByteArray) (its : List Dat) (kv cv : Value) (css : List (List Value)) (wr : World) : Prop where
  out : wr.heap[ob]? = some (outBlk kind kv cv)
  krow : wr.ownsRow w.heap.size 9 1 kv ks.length (ks.map Value.string)
  irow : wr.ownsRow w.heap.size 25 5 cv its.length css.flatten
  len : css.length = its.length
  at_ : ∀ j (h : j < its.length) (h' : j < css.length), VA (onS wr fun k => S k ∨ (w.heap.size ≤ k ∧ k < wr.heap.size ∧ k ≠ ob ∧ cv.ownBlock ≠ some k ∧ kv.ownBlock ≠ some k)) its[j] css[j]
  apart : ∀ k, kv.ownBlock = some k → cv.ownBlock ≠ some k
  kout : kv.ownBlock ≠ some ob
  iout : cv.ownBlock ≠ some ob
  base : w.heap.size ≤ ob
  lt : ob < wr.heap.size
  below : Below w.heap.size w wr

section
variable {w : World} {S : Nat → Prop} {ob : Nat} {kind : Int} {ks : List ByteArray} {its : List Dat} {kv cv : Value} {css : List (List Value)} {wr : World}

theorem ZInv.up (hS : ∀ k, S k → k < w.heap.size) (I : ZInv w S ob kind ks its kv cv css wr) {w1 : World} (h : Below wr.heap.size wr w1) : ZInv w S ob kind ks its kv cv css w1 :=
  ⟨blk_up I.out h, own_up I.krow h, own_up I.irow h, I.len, fun j a b => (I.at_ j a b).upS (fun k hk => h.block k (by have := I.below.size; rcases hk with hk | hk; have := hS k hk; omega; exact hk.2.1)) (fun k hk => hk.imp id fun hk => ⟨hk.1, Nat.lt_of_lt_of_le hk.2.1 h.size, hk.2.2⟩),
    I.apart, I.kout, I.iout, I.base, Nat.lt_of_lt_of_le I.lt h.size, up_trans I.below h⟩

/-- What lies in blocks that are new lies beside all that is in the make. -/
theorem ZInv.fresh (I : ZInv w S ob kind ks its kv cv css wr) {w1 : World} {y : Dat} {cs : List Value} (hv : VA (onS w1 fun k => S k ∨ (wr.heap.size ≤ k ∧ k < w1.heap.size)) y cs) :
    VA (onS w1 fun k => S k ∨ (w.heap.size ≤ k ∧ k < w1.heap.size ∧ k ≠ ob ∧ cv.ownBlock ≠ some k ∧ kv.ownBlock ≠ some k)) y cs :=
  hv.upS (fun _ _ => rfl) (fun k hk => hk.imp id fun hk => ⟨Nat.le_trans I.below.size hk.1, hk.2, fun e => by have := I.lt; have := hk.1; omega, fun e => by have := (I.irow.lt k e).2; have := hk.1; omega, fun e => by have := (I.krow.lt k e).2; have := hk.1; omega⟩)

/-- One key more: what lies beside goes along. -/
theorem ZInv.key_far (hS : ∀ k, S k → k < w.heap.size) (I : ZInv w S ob kind ks its kv cv css wr) {w5 : World} {gg cap n : Nat} {o : Obj} {y : Dat} {cs : List Value}
    (hgrow : (wr.alloc o).grownBy w5 kv.ownBlock) (hat : kv.ownBlock = some gg ∨ gg = wr.heap.size + 1) (hv : VA (onS wr fun k => S k ∨ (w.heap.size ≤ k ∧ k < wr.heap.size ∧ k ≠ ob ∧ cv.ownBlock ≠ some k ∧ kv.ownBlock ≠ some k)) y cs) :
    VA (onS (w5.setCell ⟨ob, 3, none⟩ (.slice (some ⟨gg, 0, none⟩) n cap)) fun k => S k ∨ (w.heap.size ≤ k ∧ k < (w5.setCell ⟨ob, 3, none⟩ (.slice (some ⟨gg, 0, none⟩) n cap)).heap.size ∧ k ≠ ob ∧ cv.ownBlock ≠ some k ∧ (Value.slice (some ⟨gg, 0, none⟩) n cap).ownBlock ≠ some k)) y cs := by
  have hb := I.base
  have hz3 := hgrow.size
  have hsz : (wr.alloc o).heap.size = wr.heap.size + 1 := by simp
  have hkl := I.krow.lt
  have hzF : (w5.setCell ⟨ob, 3, none⟩ (.slice (some ⟨gg, 0, none⟩) n cap)).heap.size = w5.heap.size := by simp [World.setCell]
  have old : ∀ k, k < wr.heap.size → kv.ownBlock ≠ some k → w5.heap[k]? = wr.heap[k]? := fun k h1 h2 => by
    rw [hgrow.block k (by omega) (fun e => h2 e.symm)]
    exact Below.heap_alloc _ _ _ h1
  have hfF : ∀ k, k ≠ ob → (w5.setCell ⟨ob, 3, none⟩ (.slice (some ⟨gg, 0, none⟩) n cap)).heap[k]? = w5.heap[k]? := fun k hk => Below.heap_setCell _ _ _ _ hk
  refine hv.upS ?_ ?_
  · rintro k (hk | ⟨h1, h2, h3, h4, h5⟩)
    · have := hS k hk
      have := I.below.size
      rw [hfF k (by omega), old k (by omega) (fun e => by have := (hkl k e).1; omega)]
    · rw [hfF k h3, old k h2 h5]
  · rintro k (hk | ⟨h1, h2, h3, h4, h5⟩)
    · exact .inl hk
    · refine .inr ⟨h1, by omega, h3, h4, fun e => ?_⟩
      simp only [Value.ownBlock, Option.some.injEq] at e
      rcases hat with h | h
      · exact h5 (by rw [h, e])
      · omega

/-- One key more. -/
theorem ZInv.key (hS : ∀ k, S k → k < w.heap.size) (I : ZInv w S ob kind ks its kv cv css wr) {w5 : World} {gg cap : Nat} {o : Obj} {key : ByteArray}
    (hown : w5.ownsRow w.heap.size 9 1 (.slice (some ⟨gg, 0, none⟩) (ks.length + 1) cap) (ks.length + 1) (ks.map Value.string ++ [.string key])) (hgrow : (wr.alloc o).grownBy w5 kv.ownBlock) (hat : kv.ownBlock = some gg ∨ gg = wr.heap.size + 1) :
    ZInv w S ob kind (ks ++ [key]) its (.slice (some ⟨gg, 0, none⟩) (ks.length + 1) cap) cv css (w5.setCell ⟨ob, 3, none⟩ (.slice (some ⟨gg, 0, none⟩) (ks.length + 1) cap)) := by
  have hz := I.lt
  have hb := I.base
  have hz3 := hgrow.size
  have hsz : (wr.alloc o).heap.size = wr.heap.size + 1 := by simp
  have hkl := I.krow.lt
  have hil := I.irow.lt
  have hzF : (w5.setCell ⟨ob, 3, none⟩ (.slice (some ⟨gg, 0, none⟩) (ks.length + 1) cap)).heap.size = w5.heap.size := by simp [World.setCell]
  have old : ∀ k, k < wr.heap.size → kv.ownBlock ≠ some k → w5.heap[k]? = wr.heap[k]? := fun k h1 h2 => by
    rw [hgrow.block k (by omega) (fun e => h2 e.symm)]
    exact Below.heap_alloc _ _ _ h1
  have hfF : ∀ k, k ≠ ob → (w5.setCell ⟨ob, 3, none⟩ (.slice (some ⟨gg, 0, none⟩) (ks.length + 1) cap)).heap[k]? = w5.heap[k]? := fun k hk => Below.heap_setCell _ _ _ _ hk
  have ggo : gg ≠ ob := by
    rcases hat with h | h
    · exact fun e => I.kout (by rw [h, e])
    · omega
  have ggi : cv.ownBlock ≠ some gg := by
    rcases hat with h | h
    · exact I.apart _ h
    · exact fun e => by have := (hil _ e).2; omega
  refine ⟨?_, ?_, ?_, I.len, fun j a b => (I.at_ j a b).upS ?_ ?_, ?_, ?_, I.iout, I.base, by omega, ?_⟩
  · have h := (old _ hz I.kout).trans I.out
    simp only [World.setCell, Array.getElem?_modify, if_true, h]
    rfl
  · rw [List.length_append, List.map_append]
    exact own_same hown (fun k h => hfF k (by simp only [Value.ownBlock, Option.some.injEq] at h; omega))
  · refine own_same I.irow (fun k h => ?_)
    rw [hfF k (fun e => I.iout (by rw [← e]; exact h)), old k (hil k h).2 (fun e => I.apart k e h)]
  · rintro k (hk | ⟨h1, h2, h3, h4, h5⟩)
    · have := hS k hk
      have := I.below.size
      rw [hfF k (by omega), old k (by omega) (fun e => by have := (hkl k e).1; omega)]
    · rw [hfF k h3, old k h2 h5]
  · rintro k (hk | ⟨h1, h2, h3, h4, h5⟩)
    · exact .inl hk
    · refine .inr ⟨h1, by omega, h3, h4, fun e => ?_⟩
      simp only [Value.ownBlock, Option.some.injEq] at e
      rcases hat with h | h
      · exact h5 (by rw [h, e])
      · omega
  · intro k h
    simp only [Value.ownBlock, Option.some.injEq] at h
    rw [← h]
    exact ggi
  · simpa [Value.ownBlock] using ggo
  · refine Below.setCell ?_ hb _
    exact Below.grown (I.below.trans ((up_alloc (Below.refl _ _) o).mono I.below.size)) hgrow (by have := I.below.size; omega) (fun k hk => (hkl k hk).1)

/-- One item more. wr: where the row stood; w1: behind the item's call; w3: behind the append. -/
theorem ZInv.item (hS : ∀ k, S k → k < w.heap.size) (I : ZInv w S ob kind ks its kv cv css wr) {w1 w3 : World} {gg cap : Nat} {o : Obj} {y : Dat} {cs : List Value} (h1 : Below wr.heap.size wr w1)
    (hv : VA (onS w1 fun k => S k ∨ (w.heap.size ≤ k ∧ k < w1.heap.size ∧ k ≠ ob ∧ cv.ownBlock ≠ some k ∧ kv.ownBlock ≠ some k)) y cs)
    (hown : w3.ownsRow w.heap.size 25 5 (.slice (some ⟨gg, 0, none⟩) (its.length + 1) cap) (its.length + 1) (css.flatten ++ cs)) (hgrow : (w1.alloc o).grownBy w3 cv.ownBlock) (hat : cv.ownBlock = some gg ∨ gg = w1.heap.size + 1) :
    ZInv w S ob kind ks (its ++ [y]) kv (.slice (some ⟨gg, 0, none⟩) (its.length + 1) cap) (css ++ [cs]) (w3.setCell ⟨ob, 4, none⟩ (.slice (some ⟨gg, 0, none⟩) (its.length + 1) cap)) := by
  have I1 := I.up hS h1
  have hz := I.lt
  have hz1 := h1.size
  have hb := I.base
  have hz3 := hgrow.size
  have hbz := I.below.size
  have hsz : (w1.alloc o).heap.size = w1.heap.size + 1 := by simp
  have hkl := I.krow.lt
  have hil := I.irow.lt
  have hzF : (w3.setCell ⟨ob, 4, none⟩ (.slice (some ⟨gg, 0, none⟩) (its.length + 1) cap)).heap.size = w3.heap.size := by simp [World.setCell]
  have old : ∀ k, k < w1.heap.size → cv.ownBlock ≠ some k → w3.heap[k]? = w1.heap[k]? := fun k h1 h2 => by
    rw [hgrow.block k (by omega) (fun e => h2 e.symm)]
    exact Below.heap_alloc _ _ _ h1
  have hfF : ∀ k, k ≠ ob → (w3.setCell ⟨ob, 4, none⟩ (.slice (some ⟨gg, 0, none⟩) (its.length + 1) cap)).heap[k]? = w3.heap[k]? := fun k hk => Below.heap_setCell _ _ _ _ hk
  have ggo : gg ≠ ob := by
    rcases hat with h | h
    · exact fun e => I.iout (by rw [h, e])
    · omega
  have ggk : kv.ownBlock ≠ some gg := by
    rcases hat with h | h
    · exact fun e => I.apart _ e h
    · exact fun e => by have := (hkl _ e).2; omega
  refine ⟨?_, ?_, ?_, by simp [I.len], fun j a b => ?_, ?_, I.kout, ?_, I.base, by omega, ?_⟩
  · have h := (old _ (by omega) I.iout).trans I1.out
    simp only [World.setCell, Array.getElem?_modify, if_true, h]
    rfl
  · refine own_same I1.krow (fun k h => ?_)
    rw [hfF k (fun e => I.kout (by rw [← e]; exact h)), old k (by have := (hkl k h).2; omega) (I.apart k h)]
  · rw [List.length_append, List.flatten_append]
    simp only [List.flatten_cons, List.flatten_nil, List.append_nil]
    exact own_same hown (fun k h => hfF k (by simp only [Value.ownBlock, Option.some.injEq] at h; omega))
  · rcases Nat.lt_or_ge j its.length with hj | hj
    · have hj' : j < css.length := by rw [I.len]; exact hj
      have e1 : (its ++ [y])[j] = its[j] := List.getElem_append_left hj
      have e2 : (css ++ [cs])[j] = css[j] := List.getElem_append_left hj'
      rw [e1, e2]
      refine (I1.at_ j hj hj').upS ?_ ?_
      · rintro k (hk | ⟨q1, q2, q3, q4, q5⟩)
        · have := hS k hk
          rw [hfF k (by omega), old k (by omega) (fun e => by have := (hil k e).1; omega)]
        · rw [hfF k q3, old k q2 q4]
      · rintro k (hk | ⟨q1, q2, q3, q4, q5⟩)
        · exact .inl hk
        · refine .inr ⟨q1, by omega, q3, fun e => ?_, q5⟩
          simp only [Value.ownBlock, Option.some.injEq] at e
          rcases hat with h | h
          · exact q4 (by rw [h, e])
          · omega
    · have hl := I.len
      obtain rfl : j = its.length := by simp at a; omega
      have e1 : (its ++ [y])[its.length]'a = y := by simp
      have e2 : (css ++ [cs])[its.length]'b = cs := by simp [← hl]
      rw [e1, e2]
      refine hv.upS ?_ ?_
      · rintro k (hk | ⟨q1, q2, q3, q4, q5⟩)
        · have := hS k hk
          rw [hfF k (by omega), old k (by omega) (fun e => by have := (hil k e).1; omega)]
        · rw [hfF k q3, old k q2 q4]
      · rintro k (hk | ⟨q1, q2, q3, q4, q5⟩)
        · exact .inl hk
        · refine .inr ⟨q1, by omega, q3, fun e => ?_, q5⟩
          simp only [Value.ownBlock, Option.some.injEq] at e
          rcases hat with h | h
          · exact q4 (by rw [h, e])
          · omega
  · intro k h hc
    simp only [Value.ownBlock, Option.some.injEq] at hc
    exact ggk (by rw [hc]; exact h)
  · simpa [Value.ownBlock] using ggo
  · refine Below.setCell ?_ hb _
    exact Below.grown (I1.below.trans ((up_alloc (Below.refl _ _) o).mono I1.below.size)) hgrow (by omega) (fun k hk => (hil k hk).1)

/-- The Value is whole. -/
theorem ZInv.val (I : ZInv w S ob kind ks its kv cv css wr) (hwo : ∀ k ∈ ks, k.size ≤ maxLen) : VA (onS wr fun k => S k ∨ (w.heap.size ≤ k ∧ k < wr.heap.size)) (.mk kind 0 ⟨#[]⟩ ks its) [.int .i64 kind, .int .i64 0, .string ⟨#[]⟩, kv, cv] := by
  have hits : ∀ i (h : i < its.length), VA (onS wr fun k => S k ∨ (w.heap.size ≤ k ∧ k < wr.heap.size)) its[i] (css.getD i []) := by
    intro i h
    have h' : i < css.length := by rw [I.len]; exact h
    have := (I.at_ i h h').upS (w1 := wr) (T := fun k => S k ∨ (w.heap.size ≤ k ∧ k < wr.heap.size)) (fun _ _ => rfl) (fun k hk => hk.imp id fun hk => ⟨hk.1, hk.2.1⟩)
    rw [List.getD_eq_getElem?_getD, List.getElem?_eq_getElem h']
    exact this
  have hl5 : ∀ cs ∈ css, cs.length = 5 := by
    intro cs hcs
    obtain ⟨j, hj, rfl⟩ := List.mem_iff_getElem.1 hcs
    exact (I.at_ j (by have := I.len; omega) hj).len
  have hK : ∃ ka kc, kv = .slice ka ks.length kc ∧ ks.length ≤ kc ∧ kc ≤ maxLen ∧ StrsAt (onS wr fun k => S k ∨ (w.heap.size ≤ k ∧ k < wr.heap.size)) ka ks := by
    rcases I.krow.2 with ⟨hv, h0⟩ | ⟨q, cap, cur, hv, hq, hh, hnc, hcm, _⟩
    · exact ⟨none, 0, by rw [hv, h0], by omega, by unfold maxLen; omega, fun i h => absurd h (by omega)⟩
    · refine ⟨some ⟨q, 0, none⟩, cap, hv, hnc, hcm, fun i h => ⟨hwo _ (List.getElem_mem h), q, 0, rfl, ?_⟩⟩
      refine onS_in (.inr ⟨hq, blk_lt hh⟩) ?_
      have ho := I.krow
      rw [hv] at ho
      rw [Nat.zero_add, ho.cellAt i (by omega)]
      simp [h]
  have hI : ∃ ia ic, cv = .slice ia its.length ic ∧ its.length ≤ ic ∧ ic ≤ maxLen ∧ (∀ i, i < its.length → ∃ b o, ia = some ⟨b, o, none⟩ ∧ ∀ j u, (css.getD i [])[j]? = some u → (onS wr fun k => S k ∨ (w.heap.size ≤ k ∧ k < wr.heap.size)).cell? ⟨b, o + i * 5 + j, none⟩ = some u) := by
    rcases I.irow.2 with ⟨hv, h0⟩ | ⟨q, cap, cur, hv, hq, hh, hnc, hcm, _⟩
    · exact ⟨none, 0, by rw [hv, h0], by omega, by unfold maxLen; omega, fun i h => absurd h (by omega)⟩
    · refine ⟨some ⟨q, 0, none⟩, cap, hv, hnc, hcm, fun i h => ⟨q, 0, rfl, fun j u hu => ?_⟩⟩
      have h' : i < css.length := by rw [I.len]; exact h
      have hu' : css[i][j]? = some u := by
        simpa [List.getD_eq_getElem?_getD, List.getElem?_eq_getElem h'] using hu
      have hj : j < 5 := by
        have h1 := (List.getElem?_eq_some_iff.1 hu').1
        have h2 := hl5 _ (List.getElem_mem h')
        omega
      refine onS_in (.inr ⟨hq, blk_lt hh⟩) ?_
      have ho := I.irow
      rw [hv] at ho
      rw [show 0 + i * 5 + j = i * 5 + j by omega, ho.cellAt _ (by omega), flat_at hl5 i j h' hj]
      exact hu'
  obtain ⟨ka, kc, rfl, k1, k2, k3⟩ := hK
  obtain ⟨ia, ic, rfl, i1, i2, i3⟩ := hI
  exact VA.mk kind 0 ⟨#[]⟩ ks its ka ia kc ic (fun i => css.getD i []) (Nat.zero_le _) k3 k1 k2 i1 i2 i3 hits
end
end Go.Proofs.YthdnkcofcbinhaaGreatDoor
