/- Values that lie in given blocks alone; rows of Values in the make (no program's steps here). -/
import Derived.Test.YtkafelcnpnlbfaaDoorRd1
import Derived.Deep.AppendLies
namespace Go.Proofs.YtkafelcnpnlbfaaDoor
open Go.RowKit
open Classical in
/-- The world, but that blocks outside S hold nothing. -/
noncomputable def onS (w : World) (S : Nat → Prop) : World := { w with heap := w.heap.mapIdx fun k o => if S k then o else .cells #[] 0 (0, 0) }

theorem onS_block {w : World} {S : Nat → Prop} {k : Nat} (h : S k) : (onS w S).heap[k]? = w.heap[k]? := by
  simp only [onS, Array.getElem?_mapIdx, h, if_true]
  cases w.heap[k]? <;> rfl
theorem onS_in {w : World} {S : Nat → Prop} {a : Addr} {u : Value} (h : S a.block) (hc : w.cell? a = some u) : (onS w S).cell? a = some u :=
  (World.cell?_of_block (a := a) (onS_block h)).trans hc
theorem onS_out {w : World} {S : Nat → Prop} {a : Addr} {u : Value} (hc : (onS w S).cell? a = some u) : S a.block ∧ w.cell? a = some u := by
  by_cases h : S a.block
  · exact ⟨h, (World.cell?_of_block (a := a) (onS_block h)).symm.trans hc⟩
  · exfalso
    have e : (onS w S).heap[a.block]? = (w.heap[a.block]?).map fun _ => (.cells #[] 0 (0, 0) : Obj) := by
      simp only [onS, Array.getElem?_mapIdx, h, if_false]
    unfold World.cell? at hc
    rw [e] at hc
    revert hc
    cases w.heap[a.block]? <;> simp
theorem onS_move {w w1 : World} {S T : Nat → Prop} (hb : ∀ k, S k → w1.heap[k]? = w.heap[k]?) (hT : ∀ k, S k → T k) : ∀ a u, (onS w S).cell? a = some u → (onS w1 T).cell? a = some u := by
  intro a u h
  obtain ⟨h1, h2⟩ := onS_out h
  exact onS_in (hT _ h1) ((World.cell?_of_block (a := a) (hb _ h1)).trans h2)
theorem onS_whole {w : World} {S : Nat → Prop} : ∀ a u, (onS w S).cell? a = some u → w.cell? a = some u := fun _ _ h => (onS_out h).2

/-- What a method that gives a Value leaves. -/
def GivesVal (v : Dat) (g : Nat) (s : ByteArray) (l : List UInt8) (w : World) (e : Ending) (w' : World) : Prop :=
  ∃ cs, e = .returned (.agg cs.toArray) ∧ VA (onS w' fun k => w.heap.size ≤ k ∧ k < w'.heap.size) v cs ∧ Rem w' g s l ∧ w.grownBy w' (some g)

/-- A Value without parts. -/
theorem VA.plain (w : World) (k n : Int) (t : ByteArray) (ht : t.size ≤ maxLen) : VA w (.mk k n t [] []) [.int .i64 k, .int .i64 n, .string t, .slice none 0 0, .slice none 0 0] := by
  have := VA.mk (w := w) k n t [] [] none none 0 0 (fun _ => []) ht (fun i h => absurd h (Nat.not_lt_zero _)) (Nat.le_refl _) (by unfold maxLen; omega) (Nat.le_refl _) (by unfold maxLen; omega) (fun i h => absurd h (Nat.not_lt_zero _)) (fun i h => absurd h (Nat.not_lt_zero _))
  simpa using this

/-- Cells of a row of Values. -/
theorem flat_at {css : List (List Value)} (h : ∀ cs ∈ css, cs.length = 5) : ∀ (i j : Nat) (hi : i < css.length), j < 5 → css.flatten[i * 5 + j]? = css[i][j]? := by
  induction css with
  | nil => intro i j hi; exact absurd hi (Nat.not_lt_zero _)
  | cons c css ih =>
    intro i j hi hj
    have hc : c.length = 5 := h c (List.mem_cons_self ..)
    cases i with
    | zero =>
      rw [List.flatten_cons, List.getElem?_append_left (by omega)]
      simp
    | succ i =>
      rw [List.flatten_cons, List.getElem?_append_right (by omega), hc, show (i + 1) * 5 + j - 5 = i * 5 + j by omega]
      exact ih (fun cs hcs => h cs (List.mem_cons_of_mem _ hcs)) i j (by simpa using hi) hj
theorem VA.len {w : World} {v : Dat} {cs : List Value} (h : VA w v cs) : cs.length = 5 := by
  obtain ⟨_, _, _, _, rfl⟩ := h.shape
  rfl

/-- A row of Values in the make: n of them are there; none lies in the blocks below B, in the row itself or in a block of X. -/
structure Row (B : Nat) (its : List Dat) (X : Nat → Prop) (n : Nat) (cv : Value) (css : List (List Value)) (wr : World) : Prop where
  own : wr.ownsRow B 25 5 cv n css.flatten
  len : css.length = n
  at_ : ∀ j (h : j < its.length) (h' : j < css.length), VA (onS wr fun k => B ≤ k ∧ k < wr.heap.size ∧ some k ≠ cv.ownBlock ∧ ¬ X k) its[j] css[j]

theorem Row.nil (B : Nat) (its : List Dat) (X : Nat → Prop) (w : World) : Row B its X 0 (.slice none 0 0) [] w := ⟨World.ownsRow_nil _ _ _ _, rfl, fun j _ h => absurd h (Nat.not_lt_zero _)⟩

/-- The row goes along where no block of it is written. -/
theorem Row.keep {B n : Nat} {its : List Dat} {X X' : Nat → Prop} {cv : Value} {css : List (List Value)} {w w1 : World} (R : Row B its X n cv css w) (hz : w.heap.size ≤ w1.heap.size) (hb : ∀ k, B ≤ k → k < w.heap.size → ¬ X k → w1.heap[k]? = w.heap[k]?)
    (hX : ∀ k, k < w.heap.size → X' k → X k) (hown : ∀ k, cv.ownBlock = some k → ¬ X k) : Row B its X' n cv css w1 := by
  refine ⟨?_, R.len, fun j h h' => (R.at_ j h h').mono (onS_move (fun k hk => hb k hk.1 hk.2.1 hk.2.2.2) (fun k hk => ⟨hk.1, by omega, hk.2.2.1, fun hx => hk.2.2.2 (hX k hk.2.1 hx)⟩))⟩
  obtain ⟨h1, h2⟩ := R.own
  refine ⟨h1, h2.imp id ?_⟩
  rintro ⟨q, cap, cur, hv, hq, hh, r⟩
  exact ⟨q, cap, cur, hv, hq, by rw [hb q hq (blk_lt hh) (hown q (by rw [hv]; rfl))]; exact hh, r⟩

/-- One more. -/
theorem Row.step {B n gg cap : Nat} {its : List Dat} {X : Nat → Prop} {cv : Value} {css : List (List Value)} {cs : List Value} {wr w1 w3 : World} {o : Obj} (R : Row B its X n cv css wr) (hn : n < its.length) (hB : B ≤ wr.heap.size) (hX : ∀ k, wr.heap.size ≤ k → ¬ X k)
    (hz1 : wr.heap.size ≤ w1.heap.size) (hk1 : ∀ k, B ≤ k → k < wr.heap.size → ¬ X k → w1.heap[k]? = wr.heap[k]?) (hv : VA (onS w1 fun k => wr.heap.size ≤ k ∧ k < w1.heap.size) its[n] cs)
    (hown3 : w3.ownsRow B 25 5 (.slice (some ⟨gg, 0, none⟩) (n + 1) cap) (n + 1) (css.flatten ++ cs)) (hgrow : (w1.alloc o).grownBy w3 cv.ownBlock) (hat : cv.ownBlock = some gg ∨ gg = w1.heap.size + 1) :
    Row B its X (n + 1) (.slice (some ⟨gg, 0, none⟩) (n + 1) cap) (css ++ [cs]) w3 := by
  have hsz : (w1.alloc o).heap.size = w1.heap.size + 1 := by simp
  have hz3 := hgrow.size
  have hlt := R.own.lt
  have keep : ∀ b, b < w1.heap.size → some b ≠ cv.ownBlock → w3.heap[b]? = w1.heap[b]? := by
    intro b h1 h2
    rw [hgrow.block b (by omega) h2]
    exact Below.heap_alloc _ _ _ h1
  have gone : ∀ b, b < w1.heap.size → some b ≠ cv.ownBlock → some b ≠ (Value.slice (some ⟨gg, 0, none⟩) (n + 1) cap).ownBlock := by
    intro b h1 h2 h3
    simp only [Value.ownBlock, Option.some.injEq] at h3
    rcases hat with h | h
    · exact h2 (by rw [h, h3])
    · omega
  refine ⟨by simpa using hown3, by simp [R.len], fun j h h' => ?_⟩
  rcases Nat.lt_or_ge j n with hj | hj
  · have hj' : j < css.length := by rw [R.len]; exact hj
    rw [List.getElem_append_left hj']
    refine (R.at_ j h hj').mono (onS_move ?_ ?_)
    · rintro b ⟨h1, h2, h3, h4⟩
      rw [keep b (by omega) h3, hk1 b h1 h2 h4]
    · rintro b ⟨h1, h2, h3, h4⟩
      exact ⟨h1, by omega, gone b (by omega) h3, h4⟩
  · have hl := R.len
    obtain rfl : j = n := by simp at h'; omega
    rw [List.getElem_append_right (by omega)]
    simp only [hl, Nat.sub_self, List.getElem_cons_zero]
    have far : ∀ b, wr.heap.size ≤ b → some b ≠ cv.ownBlock := fun b h1 h2 => by have := (hlt b h2.symm).2; omega
    refine hv.mono (onS_move ?_ ?_)
    · rintro b ⟨h1, h2⟩
      exact keep b h2 (far b h1)
    · rintro b ⟨h1, h2⟩
      exact ⟨by omega, by omega, gone b h2 (far b h1), hX b h1⟩

/-- The row is whole: what a Value needs of its items. -/
theorem Row.items {B : Nat} {its : List Dat} {X : Nat → Prop} {cv : Value} {css : List (List Value)} {w : World} {S : Nat → Prop} (R : Row B its X its.length cv css w) (hS : ∀ k, B ≤ k → k < w.heap.size → S k) (h60 : its.length ≤ 60) :
    ∃ ia ic, cv = .slice ia its.length ic ∧ its.length ≤ ic ∧ ic ≤ maxLen ∧ ∃ cf : Nat → List Value, (∀ i, i < its.length → ∃ b o, ia = some ⟨b, o, none⟩ ∧ ∀ j u, (cf i)[j]? = some u → (onS w S).cell? ⟨b, o + i * 5 + j, none⟩ = some u) ∧ ∀ i (h : i < its.length), VA (onS w S) its[i] (cf i) := by
  have hl5 : ∀ cs ∈ css, cs.length = 5 := by
    intro cs hcs
    obtain ⟨j, hj, rfl⟩ := List.mem_iff_getElem.1 hcs
    exact (R.at_ j (by rw [R.len] at hj; exact hj) hj).len
  have hit : ∀ i (h : i < its.length), VA (onS w S) its[i] (css.getD i []) := by
    intro i h
    have h' : i < css.length := by rw [R.len]; exact h
    have := (R.at_ i h h').mono (onS_move (T := S) (fun _ _ => rfl) (fun k hk => hS k hk.1 hk.2.1))
    rw [List.getD_eq_getElem?_getD, List.getElem?_eq_getElem h']
    exact this
  rcases R.own.2 with ⟨hv, h0⟩ | ⟨q, cap, cur, hv, hq, hh, hnc, hcm, _⟩
  · refine ⟨none, 0, by rw [hv, h0], by omega, by unfold maxLen; omega, fun i => css.getD i [], fun i hi => absurd hi (by omega), hit⟩
  · refine ⟨some ⟨q, 0, none⟩, cap, hv, hnc, hcm, fun i => css.getD i [], fun i hi => ⟨q, 0, rfl, fun j u hu => ?_⟩, hit⟩
    have h' : i < css.length := by rw [R.len]; exact hi
    have hu' : css[i][j]? = some u := by
      simpa [List.getD_eq_getElem?_getD, List.getElem?_eq_getElem h'] using hu
    have hj : j < 5 := by
      have h1 := (List.getElem?_eq_some_iff.1 hu').1
      have h2 := hl5 _ (List.getElem_mem h')
      omega
    refine onS_in (hS _ hq (blk_lt hh)) ?_
    have ho := R.own
    rw [hv] at ho
    rw [show 0 + i * 5 + j = i * 5 + j by omega, ho.cellAt _ (by omega), flat_at hl5 i j h' hj]
    exact hu'
end Go.Proofs.YtkafelcnpnlbfaaDoor
