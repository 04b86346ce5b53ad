/- Trees of nodes: how they lie (no program's steps here). -/
import Derived.Test.YtefhboojobfchaaGreatDoorValJ
import Derived.Deep.AppendLies
import Derived.Lib.ItoaNum
set_option linter.unusedVariables false
set_option linter.unusedSimpArgs false
namespace Go.Proofs.YtefhboojobfchaaGreatDoor
open Go.RowKit

/-- A node's block. -/
def nodeBlk (kind : Int) (tag val : ByteArray) (cont : Value) : Obj :=
  .cells #[.int .u32 kind, .int .u32 0, .string tag, .string val, .string ⟨#[]⟩, .pointer none, cont, .string ⟨#[]⟩, .string ⟨#[]⟩, .string ⟨#[]⟩, .int .i64 0, .int .i64 0] 65

def tBool : ByteArray := ⟨#[33, 33, 98, 111, 111, 108]⟩
def tStr : ByteArray := ⟨#[33, 33, 115, 116, 114]⟩
def tSeq : ByteArray := ⟨#[33, 33, 115, 101, 113]⟩
def tMap : ByteArray := ⟨#[33, 33, 109, 97, 112]⟩
def bTrue : ByteArray := ⟨#[116, 114, 117, 101]⟩
def bFalse : ByteArray := ⟨#[102, 97, 108, 115, 101]⟩
def tInt : ByteArray := ⟨#[33, 33, 105, 110, 116]⟩
def tFloat : ByteArray := ⟨#[33, 33, 102, 108, 111, 97, 116]⟩
def tNull : ByteArray := ⟨#[33, 33, 110, 117, 108, 108]⟩
def bNull : ByteArray := ⟨#[110, 117, 108, 108]⟩
/-- A whole number's text. -/
def intText (n : Int) : ByteArray := ⟨(Lib.itoa n).toArray⟩
/-- The end of the text of a number of quarters. -/
def quarterEnd (r : Int) : List UInt8 := if r = 0 then [46, 48] else if r = 1 then [46, 50, 53] else if r = 2 then [46, 53] else [46, 55, 53]
/-- The text of a number of quarters. -/
def quarterText (n : Int) : ByteArray := ⟨((if n < 0 then [45] else []) ++ (Lib.itoa ((n.natAbs / 4 : Nat) : Int) ++ quarterEnd ((n.natAbs % 4 : Nat) : Int)) : List UInt8).toArray⟩
/-- A scalar's tag and text. -/
def ScalarOf (v : Dat) (tag val : ByteArray) : Prop :=
  (v.kind = 1 ∧ tag = tBool ∧ val = (if v.num == 1 then bTrue else bFalse)) ∨ (v.kind = 3 ∧ tag = tStr ∧ val = v.text) ∨ (v.kind = 2 ∧ tag = tInt ∧ val = intText v.num) ∨ (v.kind = 6 ∧ tag = tFloat ∧ val = quarterText v.num) ∨
    (v.kind = 0 ∧ tag = tNull ∧ val = bNull)

/-- Block b is the node of a Value; all blocks of the tree are of the set S. -/
def NodeOf (S : Nat → Prop) (w : World) : Nat → Dat → Nat → Prop
  | 0, _, _ => False
  | d + 1, v, b => S b ∧
    ((∃ tag val, ScalarOf v tag val ∧ w.heap[b]? = some (nodeBlk 8 tag val (.slice none 0 0))) ∨
    (v.kind = 4 ∧ ∃ A c, w.heap[b]? = some (nodeBlk 2 tSeq ⟨#[]⟩ (.slice A v.items.length c)) ∧
      ∀ i (h : i < v.items.length), ∃ g k, A = some ⟨g, 0, none⟩ ∧ S g ∧ w.cell? ⟨g, i, none⟩ = some (.pointer (some ⟨k, 0, none⟩)) ∧ NodeOf S w d v.items[i] k) ∨
    (v.kind = 5 ∧ v.keys.length = v.items.length ∧ ∃ A c, w.heap[b]? = some (nodeBlk 4 tMap ⟨#[]⟩ (.slice A (2 * v.items.length) c)) ∧
      ∀ i (h : i < v.items.length) (hk : i < v.keys.length), ∃ g k n, A = some ⟨g, 0, none⟩ ∧ S g ∧ w.cell? ⟨g, 2 * i, none⟩ = some (.pointer (some ⟨k, 0, none⟩)) ∧ w.cell? ⟨g, 2 * i + 1, none⟩ = some (.pointer (some ⟨n, 0, none⟩)) ∧
        S k ∧ w.heap[k]? = some (nodeBlk 8 tStr v.keys[i] (.slice none 0 0)) ∧ NodeOf S w d v.items[i] n))

theorem NodeOf.move {S T : Nat → Prop} {w w1 : World} (hb : ∀ k, S k → w1.heap[k]? = w.heap[k]?) (hT : ∀ k, S k → T k) : ∀ (d : Nat) (v : Dat) (b : Nat), NodeOf S w d v b → NodeOf T w1 d v b
  | 0, _, _, h => h
  | d + 1, v, b, h => by
    obtain ⟨hs, h⟩ := h
    refine ⟨hT _ hs, ?_⟩
    rcases h with ⟨tag, val, hq, hh⟩ | ⟨hk, A, c, hh, hi⟩ | ⟨hk, hkl, A, c, hh, hi⟩
    · exact .inl ⟨tag, val, hq, (hb _ hs).trans hh⟩
    · refine .inr (.inl ⟨hk, A, c, (hb _ hs).trans hh, fun i h => ?_⟩)
      obtain ⟨g, k, e, hg, hc, hn⟩ := hi i h
      exact ⟨g, k, e, hT _ hg, (World.cell?_of_block (a := ⟨g, i, none⟩) (hb g hg)).trans hc, NodeOf.move hb hT d _ _ hn⟩
    · refine .inr (.inr ⟨hk, hkl, A, c, (hb _ hs).trans hh, fun i h hk => ?_⟩)
      obtain ⟨g, k, n, e, hg, hc, hc1, hsk, hq, hn⟩ := hi i h hk
      exact ⟨g, k, n, e, hT _ hg, (World.cell?_of_block (a := ⟨g, 2 * i, none⟩) (hb g hg)).trans hc, (World.cell?_of_block (a := ⟨g, 2 * i + 1, none⟩) (hb g hg)).trans hc1, hT _ hsk, (hb _ hsk).trans hq, NodeOf.move hb hT d _ _ hn⟩

theorem own_up {w w1 : World} {base : Nat} {e : TypeId} {size : Nat} {v : Value} {n : Nat} {xs : List Value} (h : w.ownsRow base e size v n xs) (hb : Below w.heap.size w w1) : w1.ownsRow base e size v n xs :=
  h.kept (row := none) ⟨hb.os, hb.tape, hb.output, hb.size, fun k hk _ => hb.block k hk⟩ (by cases v.ownBlock <;> simp)

/-- A block that stands below an owned row's base is not the row. -/
theorem blk_own {w w1 : World} {g : Nat} {o : Obj} {base : Nat} {e : TypeId} {size : Nat} {v : Value} {n : Nat} {xs : List Value} (h : w.heap[g]? = some o) (ho : w.ownsRow base e size v n xs) (hg : g < base) (hgr : w.grownBy w1 v.ownBlock) : w1.heap[g]? = some o :=
  (hgr.block g (blk_lt h) (fun e => by have := (ho.lt g e.symm).1; omega)).trans h

/-- What node gives. -/
def GivesNode (d : Nat) (v : Dat) (w : World) (e : Ending) (w' : World) : Prop :=
  ∃ b, e = .returned (.pointer (some ⟨b, 0, none⟩)) ∧ NodeOf (fun k => w.heap.size ≤ k ∧ k < w'.heap.size) w' d v b ∧ Below w.heap.size w w'

def ptrs (ps : List Nat) : List Value := ps.map fun k => .pointer (some ⟨k, 0, none⟩)

/-- What stands at a place of a node's content, and how it may be moved. -/
def Movable (Q : Nat → (Nat → Prop) → World → Nat → Prop) : Prop :=
  ∀ (j : Nat) (S T : Nat → Prop) (w w1 : World) (k : Nat), (∀ k, S k → w1.heap[k]? = w.heap[k]?) → (∀ k, S k → T k) → Q j S w k → Q j T w1 k

/-- A node that is being built: n places of its content are there. -/
structure Bld (w : World) (kd : Int) (tag : ByteArray) (Q : Nat → (Nat → Prop) → World → Nat → Prop) (n : Nat) (cv : Value) (ps : List Nat) (wr : World) : Prop where
  node : wr.heap[w.heap.size + 1]? = some (nodeBlk kd tag ⟨#[]⟩ cv)
  own : wr.ownsRow (w.heap.size + 2) 39 1 cv n (ptrs ps)
  at_ : ∀ j, j < n → ∃ k, ps[j]? = some k ∧ Q j (fun b => w.heap.size + 2 ≤ b ∧ b < wr.heap.size ∧ some b ≠ cv.ownBlock) wr k
  len : ps.length = n
  size : w.heap.size + 2 ≤ wr.heap.size
  below : Below w.heap.size w wr

theorem Bld.own_up {w wr w1 : World} {kd : Int} {tag : ByteArray} {Q : Nat → (Nat → Prop) → World → Nat → Prop} {n : Nat} {cv : Value} {ps : List Nat} (B : Bld w kd tag Q n cv ps wr) (hb : Below wr.heap.size wr w1) :
    w1.ownsRow (w.heap.size + 2) 39 1 cv n (ptrs ps) := Go.Proofs.YtefhboojobfchaaGreatDoor.own_up B.own hb

theorem node_set (w : World) (b : Nat) (kd : Int) (tag val : ByteArray) (c u : Value) (h : w.heap[b]? = some (nodeBlk kd tag val c)) : (w.setCell ⟨b, 6, none⟩ u).heap[b]? = some (nodeBlk kd tag val u) := by
  simp only [World.setCell, Array.getElem?_modify, if_true, h]
  rfl

theorem Bld.step {w wr w1 w3 : World} {kd : Int} {tag : ByteArray} {Q : Nat → (Nat → Prop) → World → Nat → Prop} {n m : Nat} {cv : Value} {ps news : List Nat} {gg cap : Nat} {o : Obj} (B : Bld w kd tag Q n cv ps wr) (hQ : Movable Q) (hb1 : Below wr.heap.size wr w1)
    (hnew : ∀ j, j < m → ∃ k, news[j]? = some k ∧ Q (n + j) (fun b => wr.heap.size ≤ b ∧ b < w1.heap.size) w1 k) (hm : news.length = m)
    (hown3 : w3.ownsRow (w.heap.size + 2) 39 1 (.slice (some ⟨gg, 0, none⟩) (n + m) cap) (n + m) (ptrs ps ++ ptrs news))
    (hgrow : (w1.alloc o).grownBy w3 cv.ownBlock) (hat : cv.ownBlock = some gg ∨ gg = w1.heap.size + 1) :
    Bld w kd tag Q (n + m) (.slice (some ⟨gg, 0, none⟩) (n + m) cap) (ps ++ news) (w3.setCell ⟨w.heap.size + 1, 6, none⟩ (.slice (some ⟨gg, 0, none⟩) (n + m) cap)) := by
  have hb2 : Below wr.heap.size wr (w1.alloc o) := hb1.alloc hb1.size o
  have hsz : (w1.alloc o).heap.size = w1.heap.size + 1 := by simp
  have o2 := B.own_up hb2
  have hz := B.size
  have hz1 := hb1.size
  have hg3 := hgrow.size
  have hlt := B.own.lt
  have N3 : w3.heap[w.heap.size + 1]? = some (nodeBlk kd tag ⟨#[]⟩ cv) := blk_own (blk_up B.node hb2) o2 (by omega) hgrow
  have keep : ∀ b, b < w1.heap.size → some b ≠ cv.ownBlock → b ≠ w.heap.size + 1 → (w3.setCell ⟨w.heap.size + 1, 6, none⟩ (.slice (some ⟨gg, 0, none⟩) (n + m) cap)).heap[b]? = w1.heap[b]? := by
    intro b h1 h2 h3
    rw [Below.heap_setCell _ _ _ _ h3, hgrow.block b (by omega) h2]
    exact Below.heap_alloc _ _ _ h1
  refine ⟨node_set _ _ _ _ _ _ _ N3, ?_, ?_, by simp [B.len, hm], by simp [World.setCell]; omega, ?_⟩
  · have h := ownsRow_setCell_below hown3 (a := ⟨w.heap.size + 1, 6, none⟩) (by simp) (.slice (some ⟨gg, 0, none⟩) (n + m) cap)
    simpa [ptrs] using h
  · intro j hj
    have gone : ∀ b, b < w1.heap.size → some b ≠ cv.ownBlock → some b ≠ (Value.slice (some ⟨gg, 0, none⟩) (n + m) cap).ownBlock := by
      intro b h1 h2 h3
      simp only [Value.ownBlock, Option.some.injEq] at h3
      rcases hat with h | h
      · exact h2 (by rw [h, h3])
      · omega
    have ssz : (w3.setCell ⟨w.heap.size + 1, 6, none⟩ (.slice (some ⟨gg, 0, none⟩) (n + m) cap)).heap.size = w3.heap.size := by simp [World.setCell]
    rcases Nat.lt_or_ge j n with h | h
    · obtain ⟨k, hk, hq⟩ := B.at_ j h
      refine ⟨k, by rw [List.getElem?_append_left (by rw [B.len]; exact h)]; exact hk, hQ j _ _ wr _ k ?_ ?_ hq⟩
      · rintro b ⟨h1, h2, h3⟩
        rw [keep b (by omega) h3 (by omega), hb1.block b h2]
      · rintro b ⟨h1, h2, h3⟩
        exact ⟨h1, by omega, gone b (by omega) h3⟩
    · obtain ⟨k, hk, hq⟩ := hnew (j - n) (by omega)
      rw [show n + (j - n) = j by omega] at hq
      have far : ∀ b, wr.heap.size ≤ b → some b ≠ cv.ownBlock := fun b h1 h2 => by have := (hlt b h2.symm).2; omega
      refine ⟨k, by rw [List.getElem?_append_right (by rw [B.len]; exact h), B.len]; exact hk, hQ j _ _ w1 _ k ?_ ?_ hq⟩
      · rintro b ⟨h1, h2⟩
        exact keep b h2 (far b h1) (by omega)
      · rintro b ⟨h1, h2⟩
        exact ⟨by omega, by omega, gone b h2 (far b h1)⟩
  · refine Below.setCell ?_ (by simp) _
    exact Below.grown (B.below.trans (hb2.mono B.below.size)) hgrow (by omega) (fun k hk => by have := (hlt k hk).1; omega)

theorem Bld.box {w wr w1 w3 : World} {kd : Int} {tag : ByteArray} {Q : Nat → (Nat → Prop) → World → Nat → Prop} {n : Nat} {cv u : Value} {ps : List Nat} {o o' : Obj} (B : Bld w kd tag Q n cv ps wr) (hb1 : Below wr.heap.size wr w1)
    (hgrow : (w1.alloc o).grownBy w3 cv.ownBlock) (h : wr.heap[w.heap.size]? = some o') : (w3.setCell ⟨w.heap.size + 1, 6, none⟩ u).heap[w.heap.size]? = some o' := by
  have hb2 : Below wr.heap.size wr (w1.alloc o) := hb1.alloc hb1.size o
  rw [Below.heap_setCell _ _ _ _ (by simp)]
  exact blk_own (blk_up h hb2) (B.own_up hb2) (by omega) hgrow

/-- The places of a list's node. -/
def QList (d : Nat) (v : Dat) : Nat → (Nat → Prop) → World → Nat → Prop := fun j S w k => ∀ h : j < v.items.length, NodeOf S w d v.items[j] k
/-- The places of a map's node. -/
def QMap (d : Nat) (v : Dat) : Nat → (Nat → Prop) → World → Nat → Prop := fun j S w k =>
  if j % 2 = 0 then ∀ h : j / 2 < v.keys.length, S k ∧ w.heap[k]? = some (nodeBlk 8 tStr v.keys[j / 2] (.slice none 0 0)) else ∀ h : j / 2 < v.items.length, NodeOf S w d v.items[j / 2] k

theorem QList.movable (d : Nat) (v : Dat) : Movable (QList d v) := fun _ _ _ _ _ _ hb hT h hj => (h hj).move hb hT
theorem QMap.movable (d : Nat) (v : Dat) : Movable (QMap d v) := by
  intro j S T w w1 k hb hT h
  unfold QMap at h ⊢
  split at h
  · rename_i e
    rw [if_pos e]
    exact fun hj => ⟨hT _ (h hj).1, (hb _ (h hj).1).trans (h hj).2⟩
  · rename_i e
    rw [if_neg e]
    exact fun hj => (h hj).move hb hT

theorem new_list {d : Nat} {v x : Dat} {i k : Nat} {h : i < v.items.length} {S : Nat → Prop} {w : World} (hx : v.items[i] = x) (hn : NodeOf S w d x k) : ∀ j, j < 1 → ∃ k', [k][j]? = some k' ∧ QList d v (i + j) S w k' := by
  intro j hj
  obtain rfl : j = 0 := by omega
  subst hx
  exact ⟨k, rfl, fun _ => hn⟩
theorem new_map {d : Nat} {v x : Dat} {s : ByteArray} {i k n : Nat} {h : i < v.items.length} {h' : i < v.keys.length} {S : Nat → Prop} {w : World} (hs : v.keys[i] = s) (hx : v.items[i] = x) (hS : S k) (hk : w.heap[k]? = some (nodeBlk 8 tStr s (.slice none 0 0))) (hn : NodeOf S w d x n) :
    ∀ j, j < 2 → ∃ k', [k, n][j]? = some k' ∧ QMap d v (2 * i + j) S w k' := by
  intro j hj
  subst hs hx
  obtain rfl | rfl : j = 0 ∨ j = 1 := by omega
  · refine ⟨k, rfl, ?_⟩
    unfold QMap
    rw [if_pos (by omega)]
    have e : (2 * i + 0) / 2 = i := by omega
    simp only [e]
    exact fun _ => ⟨hS, hk⟩
  · refine ⟨n, rfl, ?_⟩
    unfold QMap
    rw [if_neg (by omega)]
    have e : (2 * i + 1) / 2 = i := by omega
    simp only [e]
    exact fun _ => hn

/-- What a row that is owned holds at a place. -/
theorem own_ptr {w : World} {base n : Nat} {e : TypeId} {cv : Value} {ps : List Nat} (h : w.ownsRow base e 1 cv n (ptrs ps)) (hn : 0 < n) :
    ∃ g c, cv = .slice (some ⟨g, 0, none⟩) n c ∧ base ≤ g ∧ g < w.heap.size ∧ ∀ j k, ps[j]? = some k → w.cell? ⟨g, j, none⟩ = some (.pointer (some ⟨k, 0, none⟩)) := by
  obtain ⟨g, c, rfl, h1, h2⟩ := h.form hn
  refine ⟨g, c, rfl, h1, h2, fun j k hj => ?_⟩
  have hl : j < ps.length := (List.getElem?_eq_some_iff.1 hj).1
  have hx : ps.length = n * 1 := by have := h.1; simpa [ptrs] using this
  rw [h.cellAt j (by omega)]
  simp [ptrs, hj]

theorem Bld.list {w wr : World} {d : Nat} {v : Dat} {cv : Value} {ps : List Nat} (B : Bld w 2 tSeq (QList d v) v.items.length cv ps wr) (hk : v.kind = 4) : NodeOf (fun k => w.heap.size ≤ k ∧ k < wr.heap.size) wr (d + 1) v (w.heap.size + 1) := by
  have hz := B.size
  refine ⟨by omega, .inr (.inl ⟨hk, ?_⟩)⟩
  rcases Nat.eq_zero_or_pos v.items.length with h0 | h0
  · have : ∃ A c, cv = .slice A v.items.length c := by
      rcases B.own.2 with ⟨h, h'⟩ | ⟨g, c, _, h, _⟩
      · exact ⟨none, 0, by rw [h, h0]⟩
      · exact ⟨_, _, h⟩
    obtain ⟨A, c, rfl⟩ := this
    exact ⟨A, c, B.node, fun i h => absurd h (by omega)⟩
  · obtain ⟨g, c, rfl, hg1, hg2, hc⟩ := own_ptr B.own h0
    refine ⟨_, c, B.node, fun i h => ?_⟩
    obtain ⟨k, hk, hq⟩ := B.at_ i h
    exact ⟨g, k, rfl, ⟨by omega, hg2⟩, hc i k hk, (hq h).move (fun _ _ => rfl) (fun b hb => ⟨by omega, hb.2.1⟩)⟩

theorem Bld.map {w wr : World} {d : Nat} {v : Dat} {cv : Value} {ps : List Nat} (B : Bld w 4 tMap (QMap d v) (2 * v.items.length) cv ps wr) (hk : v.kind = 5) (hkl : v.keys.length = v.items.length) : NodeOf (fun k => w.heap.size ≤ k ∧ k < wr.heap.size) wr (d + 1) v (w.heap.size + 1) := by
  have hz := B.size
  refine ⟨by omega, .inr (.inr ⟨hk, hkl, ?_⟩)⟩
  rcases Nat.eq_zero_or_pos v.items.length with h0 | h0
  · have : ∃ A c, cv = .slice A (2 * v.items.length) c := by
      rcases B.own.2 with ⟨h, h'⟩ | ⟨g, c, _, h, _⟩
      · exact ⟨none, 0, by rw [h, h0]⟩
      · exact ⟨_, _, h⟩
    obtain ⟨A, c, rfl⟩ := this
    exact ⟨A, c, B.node, fun i h => absurd h (by omega)⟩
  · obtain ⟨g, c, rfl, hg1, hg2, hc⟩ := own_ptr B.own (by omega)
    refine ⟨_, c, B.node, fun i h hki => ?_⟩
    obtain ⟨k, hk, hq⟩ := B.at_ (2 * i) (by omega)
    obtain ⟨n, hn, hq2⟩ := B.at_ (2 * i + 1) (by omega)
    unfold QMap at hq hq2
    rw [if_pos (by omega)] at hq
    rw [if_neg (by omega)] at hq2
    have e1 : 2 * i / 2 = i := by omega
    have e2 : (2 * i + 1) / 2 = i := by omega
    simp only [e1] at hq
    simp only [e2] at hq2
    obtain ⟨q1, q2⟩ := hq hki
    exact ⟨g, k, n, rfl, ⟨by omega, hg2⟩, hc _ k hk, hc _ n hn, ⟨by omega, q1.2.1⟩, q2, (hq2 h).move (fun _ _ => rfl) (fun b hb => ⟨by omega, hb.2.1⟩)⟩
end Go.Proofs.YtefhboojobfchaaGreatDoor
