/- Trees of nodes: how they lie (no program's steps here). -/
import Derived.Test.YthdnkcofcbinhaaGreatDoorValJ
import Derived.Deep.AppendLies
import Derived.Lib.ItoaNum
import Derived.Maps.Keyed
import Derived.Maps.Own
import Derived.WalkKit
import Derived.Laws.AppendOwn
import Derived.OrdersHeld
import Derived.Deep.RegionHeld
set_option linter.unusedVariables false
set_option linter.unusedSimpArgs false
namespace Go.Proofs.YthdnkcofcbinhaaGreatDoor
open Go.RowKit

/-- A node's block. -/
def nodeBlk (kind : Int) (tag val : ByteArray) (cont : Value) : Obj :=
  .cells #[.int .u32 kind, .int .u32 0, .string tag, .string val, .string ⟨#[]⟩, .pointer none, cont, .string ⟨#[]⟩, .string ⟨#[]⟩, .string ⟨#[]⟩, .int .i64 0, .int .i64 0] 55

def tBool : ByteArray := ⟨#[33, 33, 98, 111, 111, 108]⟩
def tStr : ByteArray := ⟨#[33, 33, 115, 116, 114]⟩
def tSeq : ByteArray := ⟨#[33, 33, 115, 101, 113]⟩
def tMap : ByteArray := ⟨#[33, 33, 109, 97, 112]⟩
def bTrue : ByteArray := ⟨#[116, 114, 117, 101]⟩
def bFalse : ByteArray := ⟨#[102, 97, 108, 115, 101]⟩
def tInt : ByteArray := ⟨#[33, 33, 105, 110, 116]⟩
def tFloat : ByteArray := ⟨#[33, 33, 102, 108, 111, 97, 116]⟩
def tNull : ByteArray := ⟨#[33, 33, 110, 117, 108, 108]⟩
def bNull : ByteArray := ⟨#[110, 117, 108, 108]⟩
/-- A whole number's text. -/
def intText (n : Int) : ByteArray := ⟨(Lib.itoa n).toArray⟩
/-- The end of the text of a number of quarters. -/
def quarterEnd (r : Int) : List UInt8 := if r = 0 then [46, 48] else if r = 1 then [46, 50, 53] else if r = 2 then [46, 53] else [46, 55, 53]
/-- The text of a number of quarters. -/
def quarterText (n : Int) : ByteArray := ⟨((if n < 0 then [45] else []) ++ (Lib.itoa ((n.natAbs / 4 : Nat) : Int) ++ quarterEnd ((n.natAbs % 4 : Nat) : Int)) : List UInt8).toArray⟩
/-- A scalar's tag and text. -/
def ScalarOf (v : Dat) (tag val : ByteArray) : Prop :=
  (v.kind = 1 ∧ tag = tBool ∧ val = (if v.num == 1 then bTrue else bFalse)) ∨ (v.kind = 3 ∧ tag = tStr ∧ val = v.text) ∨ (v.kind = 2 ∧ tag = tInt ∧ val = intText v.num) ∨ (v.kind = 6 ∧ tag = tFloat ∧ val = quarterText v.num) ∨
    (v.kind = 0 ∧ tag = tNull ∧ val = bNull)

/-- Block b is the node of a Value; all blocks of the tree are of the set S. -/
def NodeOf (S : Nat → Prop) (w : World) : Nat → Dat → Nat → Prop
  | 0, _, _ => False
  | d + 1, v, b => S b ∧
    ((∃ tag val, ScalarOf v tag val ∧ w.heap[b]? = some (nodeBlk 8 tag val (.slice none 0 0))) ∨
    (v.kind = 4 ∧ ∃ A c, w.heap[b]? = some (nodeBlk 2 tSeq ⟨#[]⟩ (.slice A v.items.length c)) ∧
      ∀ i (h : i < v.items.length), ∃ g k, A = some ⟨g, 0, none⟩ ∧ S g ∧ w.cell? ⟨g, i, none⟩ = some (.pointer (some ⟨k, 0, none⟩)) ∧ NodeOf S w d v.items[i] k) ∨
    (v.kind = 5 ∧ v.keys.length = v.items.length ∧ ∃ A c, w.heap[b]? = some (nodeBlk 4 tMap ⟨#[]⟩ (.slice A (2 * v.items.length) c)) ∧
      ∀ i (h : i < v.items.length) (hk : i < v.keys.length), ∃ g k n, A = some ⟨g, 0, none⟩ ∧ S g ∧ w.cell? ⟨g, 2 * i, none⟩ = some (.pointer (some ⟨k, 0, none⟩)) ∧ w.cell? ⟨g, 2 * i + 1, none⟩ = some (.pointer (some ⟨n, 0, none⟩)) ∧
        S k ∧ w.heap[k]? = some (nodeBlk 8 tStr v.keys[i] (.slice none 0 0)) ∧ NodeOf S w d v.items[i] n))

theorem NodeOf.move {S T : Nat → Prop} {w w1 : World} (hb : ∀ k, S k → w1.heap[k]? = w.heap[k]?) (hT : ∀ k, S k → T k) : ∀ (d : Nat) (v : Dat) (b : Nat), NodeOf S w d v b → NodeOf T w1 d v b
  | 0, _, _, h => h
  | d + 1, v, b, h => by
    obtain ⟨hs, h⟩ := h
    refine ⟨hT _ hs, ?_⟩
    rcases h with ⟨tag, val, hq, hh⟩ | ⟨hk, A, c, hh, hi⟩ | ⟨hk, hkl, A, c, hh, hi⟩
    · exact .inl ⟨tag, val, hq, (hb _ hs).trans hh⟩
    · refine .inr (.inl ⟨hk, A, c, (hb _ hs).trans hh, fun i h => ?_⟩)
      obtain ⟨g, k, e, hg, hc, hn⟩ := hi i h
      exact ⟨g, k, e, hT _ hg, (World.cell?_of_block (a := ⟨g, i, none⟩) (hb g hg)).trans hc, NodeOf.move hb hT d _ _ hn⟩
    · refine .inr (.inr ⟨hk, hkl, A, c, (hb _ hs).trans hh, fun i h hk => ?_⟩)
      obtain ⟨g, k, n, e, hg, hc, hc1, hsk, hq, hn⟩ := hi i h hk
      exact ⟨g, k, n, e, hT _ hg, (World.cell?_of_block (a := ⟨g, 2 * i, none⟩) (hb g hg)).trans hc, (World.cell?_of_block (a := ⟨g, 2 * i + 1, none⟩) (hb g hg)).trans hc1, hT _ hsk, (hb _ hsk).trans hq, NodeOf.move hb hT d _ _ hn⟩

theorem own_up {w w1 : World} {base : Nat} {e : TypeId} {size : Nat} {v : Value} {n : Nat} {xs : List Value} (h : w.ownsRow base e size v n xs) (hb : Below w.heap.size w w1) : w1.ownsRow base e size v n xs :=
  h.kept (row := none) ⟨hb.os, hb.tape, hb.output, hb.size, fun k hk _ => hb.block k hk⟩ (by cases v.ownBlock <;> simp)

/-- A block that stands below an owned row's base is not the row. -/
theorem blk_own {w w1 : World} {g : Nat} {o : Obj} {base : Nat} {e : TypeId} {size : Nat} {v : Value} {n : Nat} {xs : List Value} (h : w.heap[g]? = some o) (ho : w.ownsRow base e size v n xs) (hg : g < base) (hgr : w.grownBy w1 v.ownBlock) : w1.heap[g]? = some o :=
  (hgr.block g (blk_lt h) (fun e => by have := (ho.lt g e.symm).1; omega)).trans h

/-- What node gives. -/
def GivesNode (d : Nat) (v : Dat) (w : World) (e : Ending) (w' : World) : Prop :=
  ∃ b, e = .returned (.pointer (some ⟨b, 0, none⟩)) ∧ NodeOf (fun k => w.heap.size ≤ k ∧ k < w'.heap.size) w' d v b ∧ Below w.heap.size w w'

def ptrs (ps : List Nat) : List Value := ps.map fun k => .pointer (some ⟨k, 0, none⟩)

/-- What stands at a place of a node's content, and how it may be moved. -/
def Movable (Q : Nat → (Nat → Prop) → World → Nat → Prop) : Prop :=
  ∀ (j : Nat) (S T : Nat → Prop) (w w1 : World) (k : Nat), (∀ k, S k → w1.heap[k]? = w.heap[k]?) → (∀ k, S k → T k) → Q j S w k → Q j T w1 k

/-- A node that is being built: n places of its content are there. -/
structure Bld (w : World) (kd : Int) (tag : ByteArray) (Q : Nat → (Nat → Prop) → World → Nat → Prop) (n : Nat) (cv : Value) (ps : List Nat) (wr : World) : Prop where
  node : wr.heap[w.heap.size + 1]? = some (nodeBlk kd tag ⟨#[]⟩ cv)
  own : wr.ownsRow (w.heap.size + 2) 45 1 cv n (ptrs ps)
  at_ : ∀ j, j < n → ∃ k, ps[j]? = some k ∧ Q j (fun b => w.heap.size + 2 ≤ b ∧ b < wr.heap.size ∧ some b ≠ cv.ownBlock) wr k
  len : ps.length = n
  size : w.heap.size + 2 ≤ wr.heap.size
  below : Below w.heap.size w wr

theorem Bld.own_up {w wr w1 : World} {kd : Int} {tag : ByteArray} {Q : Nat → (Nat → Prop) → World → Nat → Prop} {n : Nat} {cv : Value} {ps : List Nat} (B : Bld w kd tag Q n cv ps wr) (hb : Below wr.heap.size wr w1) :
    w1.ownsRow (w.heap.size + 2) 45 1 cv n (ptrs ps) := Go.Proofs.YthdnkcofcbinhaaGreatDoor.own_up B.own hb

theorem node_set (w : World) (b : Nat) (kd : Int) (tag val : ByteArray) (c u : Value) (h : w.heap[b]? = some (nodeBlk kd tag val c)) : (w.setCell ⟨b, 6, none⟩ u).heap[b]? = some (nodeBlk kd tag val u) := by
  simp only [World.setCell, Array.getElem?_modify, if_true, h]
  rfl

theorem Bld.step {w wr w1 w3 : World} {kd : Int} {tag : ByteArray} {Q : Nat → (Nat → Prop) → World → Nat → Prop} {n m : Nat} {cv : Value} {ps news : List Nat} {gg cap : Nat} {o : Obj} (B : Bld w kd tag Q n cv ps wr) (hQ : Movable Q) (hb1 : Below wr.heap.size wr w1)
    (hnew : ∀ j, j < m → ∃ k, news[j]? = some k ∧ Q (n + j) (fun b => wr.heap.size ≤ b ∧ b < w1.heap.size) w1 k) (hm : news.length = m)
    (hown3 : w3.ownsRow (w.heap.size + 2) 45 1 (.slice (some ⟨gg, 0, none⟩) (n + m) cap) (n + m) (ptrs ps ++ ptrs news))
    (hgrow : (w1.alloc o).grownBy w3 cv.ownBlock) (hat : cv.ownBlock = some gg ∨ gg = w1.heap.size + 1) :
    Bld w kd tag Q (n + m) (.slice (some ⟨gg, 0, none⟩) (n + m) cap) (ps ++ news) (w3.setCell ⟨w.heap.size + 1, 6, none⟩ (.slice (some ⟨gg, 0, none⟩) (n + m) cap)) := by
  have hb2 : Below wr.heap.size wr (w1.alloc o) := hb1.alloc hb1.size o
  have hsz : (w1.alloc o).heap.size = w1.heap.size + 1 := by simp
  have o2 := B.own_up hb2
  have hz := B.size
  have hz1 := hb1.size
  have hg3 := hgrow.size
  have hlt := B.own.lt
  have N3 : w3.heap[w.heap.size + 1]? = some (nodeBlk kd tag ⟨#[]⟩ cv) := blk_own (blk_up B.node hb2) o2 (by omega) hgrow
  have keep : ∀ b, b < w1.heap.size → some b ≠ cv.ownBlock → b ≠ w.heap.size + 1 → (w3.setCell ⟨w.heap.size + 1, 6, none⟩ (.slice (some ⟨gg, 0, none⟩) (n + m) cap)).heap[b]? = w1.heap[b]? := by
    intro b h1 h2 h3
    rw [Below.heap_setCell _ _ _ _ h3, hgrow.block b (by omega) h2]
    exact Below.heap_alloc _ _ _ h1
  refine ⟨node_set _ _ _ _ _ _ _ N3, ?_, ?_, by simp [B.len, hm], by simp [World.setCell]; omega, ?_⟩
  · have h := ownsRow_setCell_below hown3 (a := ⟨w.heap.size + 1, 6, none⟩) (by simp) (.slice (some ⟨gg, 0, none⟩) (n + m) cap)
    simpa [ptrs] using h
  · intro j hj
    have gone : ∀ b, b < w1.heap.size → some b ≠ cv.ownBlock → some b ≠ (Value.slice (some ⟨gg, 0, none⟩) (n + m) cap).ownBlock := by
      intro b h1 h2 h3
      simp only [Value.ownBlock, Option.some.injEq] at h3
      rcases hat with h | h
      · exact h2 (by rw [h, h3])
      · omega
    have ssz : (w3.setCell ⟨w.heap.size + 1, 6, none⟩ (.slice (some ⟨gg, 0, none⟩) (n + m) cap)).heap.size = w3.heap.size := by simp [World.setCell]
    rcases Nat.lt_or_ge j n with h | h
    · obtain ⟨k, hk, hq⟩ := B.at_ j h
      refine ⟨k, by rw [List.getElem?_append_left (by rw [B.len]; exact h)]; exact hk, hQ j _ _ wr _ k ?_ ?_ hq⟩
      · rintro b ⟨h1, h2, h3⟩
        rw [keep b (by omega) h3 (by omega), hb1.block b h2]
      · rintro b ⟨h1, h2, h3⟩
        exact ⟨h1, by omega, gone b (by omega) h3⟩
    · obtain ⟨k, hk, hq⟩ := hnew (j - n) (by omega)
      rw [show n + (j - n) = j by omega] at hq
      have far : ∀ b, wr.heap.size ≤ b → some b ≠ cv.ownBlock := fun b h1 h2 => by have := (hlt b h2.symm).2; omega
      refine ⟨k, by rw [List.getElem?_append_right (by rw [B.len]; exact h), B.len]; exact hk, hQ j _ _ w1 _ k ?_ ?_ hq⟩
      · rintro b ⟨h1, h2⟩
        exact keep b h2 (far b h1) (by omega)
      · rintro b ⟨h1, h2⟩
        exact ⟨by omega, by omega, gone b h2 (far b h1)⟩
  · refine Below.setCell ?_ (by simp) _
    exact Below.grown (B.below.trans (hb2.mono B.below.size)) hgrow (by omega) (fun k hk => by have := (hlt k hk).1; omega)

theorem Bld.box {w wr w1 w3 : World} {kd : Int} {tag : ByteArray} {Q : Nat → (Nat → Prop) → World → Nat → Prop} {n : Nat} {cv u : Value} {ps : List Nat} {o o' : Obj} (B : Bld w kd tag Q n cv ps wr) (hb1 : Below wr.heap.size wr w1)
    (hgrow : (w1.alloc o).grownBy w3 cv.ownBlock) (h : wr.heap[w.heap.size]? = some o') : (w3.setCell ⟨w.heap.size + 1, 6, none⟩ u).heap[w.heap.size]? = some o' := by
  have hb2 : Below wr.heap.size wr (w1.alloc o) := hb1.alloc hb1.size o
  rw [Below.heap_setCell _ _ _ _ (by simp)]
  exact blk_own (blk_up h hb2) (B.own_up hb2) (by omega) hgrow

/-- The places of a list's node. -/
def QList (d : Nat) (v : Dat) : Nat → (Nat → Prop) → World → Nat → Prop := fun j S w k => ∀ h : j < v.items.length, NodeOf S w d v.items[j] k
/-- The places of a map's node. -/
def QMap (d : Nat) (v : Dat) : Nat → (Nat → Prop) → World → Nat → Prop := fun j S w k =>
  if j % 2 = 0 then ∀ h : j / 2 < v.keys.length, S k ∧ w.heap[k]? = some (nodeBlk 8 tStr v.keys[j / 2] (.slice none 0 0)) else ∀ h : j / 2 < v.items.length, NodeOf S w d v.items[j / 2] k

theorem QList.movable (d : Nat) (v : Dat) : Movable (QList d v) := fun _ _ _ _ _ _ hb hT h hj => (h hj).move hb hT
theorem QMap.movable (d : Nat) (v : Dat) : Movable (QMap d v) := by
  intro j S T w w1 k hb hT h
  unfold QMap at h ⊢
  split at h
  · rename_i e
    rw [if_pos e]
    exact fun hj => ⟨hT _ (h hj).1, (hb _ (h hj).1).trans (h hj).2⟩
  · rename_i e
    rw [if_neg e]
    exact fun hj => (h hj).move hb hT

theorem new_list {d : Nat} {v x : Dat} {i k : Nat} {h : i < v.items.length} {S : Nat → Prop} {w : World} (hx : v.items[i] = x) (hn : NodeOf S w d x k) : ∀ j, j < 1 → ∃ k', [k][j]? = some k' ∧ QList d v (i + j) S w k' := by
  intro j hj
  obtain rfl : j = 0 := by omega
  subst hx
  exact ⟨k, rfl, fun _ => hn⟩
theorem new_map {d : Nat} {v x : Dat} {s : ByteArray} {i k n : Nat} {h : i < v.items.length} {h' : i < v.keys.length} {S : Nat → Prop} {w : World} (hs : v.keys[i] = s) (hx : v.items[i] = x) (hS : S k) (hk : w.heap[k]? = some (nodeBlk 8 tStr s (.slice none 0 0))) (hn : NodeOf S w d x n) :
    ∀ j, j < 2 → ∃ k', [k, n][j]? = some k' ∧ QMap d v (2 * i + j) S w k' := by
  intro j hj
  subst hs hx
  obtain rfl | rfl : j = 0 ∨ j = 1 := by omega
  · refine ⟨k, rfl, ?_⟩
    unfold QMap
    rw [if_pos (by omega)]
    have e : (2 * i + 0) / 2 = i := by omega
    simp only [e]
    exact fun _ => ⟨hS, hk⟩
  · refine ⟨n, rfl, ?_⟩
    unfold QMap
    rw [if_neg (by omega)]
    have e : (2 * i + 1) / 2 = i := by omega
    simp only [e]
    exact fun _ => hn

/-- What a row that is owned holds at a place. -/
theorem own_ptr {w : World} {base n : Nat} {e : TypeId} {cv : Value} {ps : List Nat} (h : w.ownsRow base e 1 cv n (ptrs ps)) (hn : 0 < n) :
    ∃ g c, cv = .slice (some ⟨g, 0, none⟩) n c ∧ base ≤ g ∧ g < w.heap.size ∧ ∀ j k, ps[j]? = some k → w.cell? ⟨g, j, none⟩ = some (.pointer (some ⟨k, 0, none⟩)) := by
  obtain ⟨g, c, rfl, h1, h2⟩ := h.form hn
  refine ⟨g, c, rfl, h1, h2, fun j k hj => ?_⟩
  have hl : j < ps.length := (List.getElem?_eq_some_iff.1 hj).1
  have hx : ps.length = n * 1 := by have := h.1; simpa [ptrs] using this
  rw [h.cellAt j (by omega)]
  simp [ptrs, hj]

theorem Bld.list {w wr : World} {d : Nat} {v : Dat} {cv : Value} {ps : List Nat} (B : Bld w 2 tSeq (QList d v) v.items.length cv ps wr) (hk : v.kind = 4) : NodeOf (fun k => w.heap.size ≤ k ∧ k < wr.heap.size) wr (d + 1) v (w.heap.size + 1) := by
  have hz := B.size
  refine ⟨by omega, .inr (.inl ⟨hk, ?_⟩)⟩
  rcases Nat.eq_zero_or_pos v.items.length with h0 | h0
  · have : ∃ A c, cv = .slice A v.items.length c := by
      rcases B.own.2 with ⟨h, h'⟩ | ⟨g, c, _, h, _⟩
      · exact ⟨none, 0, by rw [h, h0]⟩
      · exact ⟨_, _, h⟩
    obtain ⟨A, c, rfl⟩ := this
    exact ⟨A, c, B.node, fun i h => absurd h (by omega)⟩
  · obtain ⟨g, c, rfl, hg1, hg2, hc⟩ := own_ptr B.own h0
    refine ⟨_, c, B.node, fun i h => ?_⟩
    obtain ⟨k, hk, hq⟩ := B.at_ i h
    exact ⟨g, k, rfl, ⟨by omega, hg2⟩, hc i k hk, (hq h).move (fun _ _ => rfl) (fun b hb => ⟨by omega, hb.2.1⟩)⟩

theorem Bld.map {w wr : World} {d : Nat} {v : Dat} {cv : Value} {ps : List Nat} (B : Bld w 4 tMap (QMap d v) (2 * v.items.length) cv ps wr) (hk : v.kind = 5) (hkl : v.keys.length = v.items.length) : NodeOf (fun k => w.heap.size ≤ k ∧ k < wr.heap.size) wr (d + 1) v (w.heap.size + 1) := by
  have hz := B.size
  refine ⟨by omega, .inr (.inr ⟨hk, hkl, ?_⟩)⟩
  rcases Nat.eq_zero_or_pos v.items.length with h0 | h0
  · have : ∃ A c, cv = .slice A (2 * v.items.length) c := by
      rcases B.own.2 with ⟨h, h'⟩ | ⟨g, c, _, h, _⟩
      · exact ⟨none, 0, by rw [h, h0]⟩
      · exact ⟨_, _, h⟩
    obtain ⟨A, c, rfl⟩ := this
    exact ⟨A, c, B.node, fun i h => absurd h (by omega)⟩
  · obtain ⟨g, c, rfl, hg1, hg2, hc⟩ := own_ptr B.own (by omega)
    refine ⟨_, c, B.node, fun i h hki => ?_⟩
    obtain ⟨k, hk, hq⟩ := B.at_ (2 * i) (by omega)
    obtain ⟨n, hn, hq2⟩ := B.at_ (2 * i + 1) (by omega)
    unfold QMap at hq hq2
    rw [if_pos (by omega)] at hq
    rw [if_neg (by omega)] at hq2
    have e1 : 2 * i / 2 = i := by omega
    have e2 : (2 * i + 1) / 2 = i := by omega
    simp only [e1] at hq
    simp only [e2] at hq2
    obtain ⟨q1, q2⟩ := hq hki
    exact ⟨g, k, n, rfl, ⟨by omega, hg2⟩, hc _ k hk, hc _ n hn, ⟨by omega, q1.2.1⟩, q2, (hq2 h).move (fun _ _ => rfl) (fun b hb => ⟨by omega, hb.2.1⟩)⟩
end Go.Proofs.YthdnkcofcbinhaaGreatDoor

/- A store into a map whose size nothing bounds, for every kind of element (no program's steps here). -/
namespace Go.Proofs.YthdnkcofcbinhaaGreatDoor
open Go.RowKit Go.Maps Go.ChangeMaps

/-- Go's own tables for numbers with a point, in blocks below T. -/
def FT (T : Nat) (w : World) : Prop :=
  4 < T ∧ 5 < T ∧ 11 < T ∧ w.cell? ⟨4, 0, none⟩ = some (.bool true) ∧ w.cell? ⟨5, 0, none⟩ = some (.int .u64 52) ∧
    ∃ b o c, b < T ∧ w.cell? ⟨11, 0, none⟩ = some (.slice (some ⟨b, o, none⟩) 23 c) ∧ 23 ≤ c ∧ c ≤ maxLen ∧ ∀ j, j < 23 → ∃ f, w.cell? ⟨b, o + j, none⟩ = some (.float .f64 f)
theorem FT.move {T : Nat} {w w1 : World} (h : FT T w) (hb : ∀ k, k < T → w1.heap[k]? = w.heap[k]?) : FT T w1 := by
  obtain ⟨t1, t2, t3, h1, h2, b, o, c, t4, h3, h4, h5, h6⟩ := h
  have mv : ∀ k o u, k < T → w.cell? ⟨k, o, none⟩ = some u → w1.cell? ⟨k, o, none⟩ = some u := fun k o u hk hc => (World.cell?_of_block (a := ⟨k, o, none⟩) (hb k hk)).trans hc
  exact ⟨t1, t2, t3, mv _ _ _ t1 h1, mv _ _ _ t2 h2, b, o, c, t4, mv _ _ _ t3 h3, h4, h5, fun j hj => let ⟨f, hf⟩ := h6 j hj; ⟨f, mv _ _ _ t4 hf⟩⟩
theorem FT.wide {T T' : Nat} {w : World} (h : FT T w) (ht : T ≤ T') : FT T' w := by
  obtain ⟨t1, t2, t3, h1, h2, b, o, c, t4, h3⟩ := h
  exact ⟨by omega, by omega, by omega, h1, h2, b, o, c, by omega, h3⟩
/-- A map whose keys can be read; Go's own tables lie below it. -/
def MapOk (P : Program) (k : TypeId) (w : World) (m : Nat) : Prop := (∃ es clock, w.heap[m]? = some (.map es clock) ∧ ∀ x ∈ es.toList, ∃ l, keyOf P k x.key = some l) ∧ FT m w

theorem map_put {P : Program} {k e t : TypeId} {w : World} {m : Nat} (K : Keyed P k) (ht : P.underlying t = some (.map k e)) (h : MapOk P k w m) {key val : Value} {kl : Lit} (hkey : keyOf P k key = some kl) :
    ∃ w', (Instr.mapUpdate t (.map (some m)) key val).run P w = .ok () w' ∧ MapOk P k w' m ∧ w.grownBy w' (some m) := by
  obtain ⟨⟨es, clock, hb, hk⟩, hft⟩ := h
  have ft : ∀ o, FT m (setBlock w m o) := fun o => hft.move (fun k hk => heap_setBlock_other hb _ (by omega))
  have grown : ∀ o, w.grownBy (setBlock w m o) (some m) := fun o => ⟨rfl, rfl, rfl, by simp [setBlock], fun i _ hi => heap_setBlock_other hb _ (fun e => hi (by rw [e]))⟩
  rcases K.find w hkey es.toList hk with ⟨h1, h2⟩ | ⟨j, e0, h1, h2, h3⟩
  · refine ⟨setBlock w m (.map (es.push ⟨key, val, clock⟩) (clock + 1)), ?_, ⟨⟨_, _, heap_setBlock_same hb _, fun x hx => ?_⟩, ft _⟩, grown _⟩
    · simp [Instr.mapUpdate, run_underlying ht, MapKept.run_getObj_map hb, K.check w false hkey, h1, MapKept.run_setObj_map _ hb, Result.andThen, setBlock]
    · simp only [Array.toList_push, List.mem_append, List.mem_singleton] at hx
      rcases hx with hx | rfl
      · exact hk x hx
      · exact ⟨_, hkey⟩
  · have hj : es[j]? = some e0 := by simpa using h2
    have hlist : (es.modify j (fun e' => { e' with key := key, val := val })).toList = es.toList.set j { e0 with key := key, val := val } := by rw [Array.toList_modify, modify_eq_set _ _ _ _ h2]
    refine ⟨setBlock w m (.map (es.modify j (fun e' => { e' with key := key, val := val })) clock), ?_, ⟨⟨_, _, heap_setBlock_same hb _, fun x hx => ?_⟩, ft _⟩, grown _⟩
    · simp [Instr.mapUpdate, run_underlying ht, MapKept.run_getObj_map hb, K.check w false hkey, h1, hj, h3, K.stays w hkey, MapKept.run_setObj_map _ hb, Result.andThen, setBlock]
    · rw [hlist] at hx
      obtain ⟨i, hi, ex⟩ := List.getElem_of_mem hx
      rw [List.getElem_set] at ex
      split at ex
      · rw [← ex]
        exact ⟨_, hkey⟩
      · have hi' : i < es.toList.length := by simpa using hi
        rw [← ex]
        exact hk _ (List.getElem_mem hi')

/-- The store in a walk. -/
theorem wpList_mapUpdate_any {P : Program} (w : World) {ops : Array Oper} {rest : List Oper} {o : Oper} {a : Act} {Q : Exit → Act → World → Prop}
    (hg : o.guard = none) (mo x v : Operand) (t : TypeId) (hop : o.op = Op.mapUpdate t mo x v) (k e : TypeId) (K : Keyed P k) (ht : P.underlying t = some (.map k e)) (m : Nat)
    (hm : a.eval mo = .map (some m)) (h : MapOk P k w m) (key : Value) (kl : Lit) (hx : a.eval x = key) (hkey : keyOf P k key = some kl)
    (hK : ∀ w', MapOk P k w' m → w.grownBy w' (some m) → wpList P ops Q rest (a.put o.dst undef) w') :
    wpList P ops Q (o :: rest) a w := by
  refine wpList_plain hg fun K' hK' => ?_
  obtain ⟨w', hrun, r1, r2⟩ := map_put K ht h (val := a.eval v) hkey
  unfold Oper.wp
  simp [execOp, hop, hm, hx, hrun, Result.andThen]
  exact hK' _ _ (hK w' r1 r2)
end Go.Proofs.YthdnkcofcbinhaaGreatDoor

/- Worlds that grow (no program's steps here). -/
namespace Go.Proofs.YthdnkcofcbinhaaGreatDoor
open Go.RowKit
theorem grown_refl (w : World) (r : Option Nat) : w.grownBy w r := ⟨rfl, rfl, rfl, Nat.le_refl _, fun _ _ _ => rfl⟩
theorem grown_trans {w w1 w2 : World} {r : Option Nat} (h : w.grownBy w1 r) (k : w1.grownBy w2 r) : w.grownBy w2 r :=
  ⟨k.os.trans h.os, k.tape.trans h.tape, k.output.trans h.output, Nat.le_trans h.size k.size, fun i hi hn => (k.block i (Nat.lt_of_lt_of_le hi h.size) hn).trans (h.block i hi hn)⟩
theorem grown_set {w : World} (g i : Nat) (u : Value) : w.grownBy (w.setCell ⟨g, i, none⟩ u) (some g) :=
  ⟨rfl, rfl, rfl, by simp [World.setCell], fun k _ hn => Below.heap_setCell _ _ _ _ (fun e => hn (by rw [e]))⟩
theorem grown_below {w w1 : World} (r : Option Nat) (h : Below w.heap.size w w1) : w.grownBy w1 r := ⟨h.os, h.tape, h.output, h.size, fun k hk _ => h.block k hk⟩
end Go.Proofs.YthdnkcofcbinhaaGreatDoor

/- A region in whatever order, of which one operation (number L: a store that ends it) may break the condition that the loads need: they wait for no store, and it waits for them. -/
namespace Go.Proofs.YthdnkcofcbinhaaGreatDoor

section
variable {P : Program} {ops : Array Oper} {Q : Exit → Act → World → Prop} {md : Region.Mode} {S : World → Prop} {L : Nat}

/-- Whatever order is picked, and S holds behind every operation but number L. -/
def AnyT (P : Program) (md : Region.Mode) (ops : Array Oper) (Q : Exit → Act → World → Prop) (S : World → Prop) (L : Nat) : Nat → Array Bool → Act → World → Prop
  | 0, done, a, w => Region.ready md ops done = [] ∧ Q .normal a w
  | n + 1, done, a, w => (Region.ready md ops done = [] → Q .normal a w) ∧
      ∀ i ∈ Region.ready md ops done, wpOp P ops Q i (fun a' w' => (S w → i ≠ L → S w') ∧ AnyT P md ops Q S L n (done.setIfInBounds i true) a' w') a w

theorem AnyT.any : ∀ (n : Nat) (done : Array Bool) (a : Act) (w : World), AnyT P md ops Q S L n done a w → wpAny P md ops Q n done a w
  | 0, _, _, _, h => h
  | n + 1, _, _, _, h => ⟨h.1, fun i hi => wpOp_mono (fun a' w' hh => AnyT.any n _ a' w' hh.2) (h.2 i hi)⟩

/-- Number i may be taken first: where T holds it yields v, and T holds as long as it has not come up. -/
theorem AnyT.first {T : World → Prop} {i : Nat} {oi : Oper} {v : Value} (hi : ops[i]? = some oi) (hsel : ∀ (j : Nat) (o : Oper) cs b, ops[j]? = some o → o.op ≠ .select cs b)
    (hQ : ∀ c a w, Q (.panic c) (a.put oi.dst v) w → Q (.panic c) a w)
    (hT : ∀ j oj, ops[j]? = some oj → (∀ e ∈ oj.after, Region.binds md e = true → e.on ≠ i) → ∀ w w', T w → (S w → j ≠ L → S w') → T w') :
    ∀ (n : Nat) (done : Array Bool) (a : Act) (w : World),
      (∀ j oj, ops[j]? = some oj → j ≠ i → done.getD j true = false → (∀ e ∈ oj.after, Region.binds md e = true → e.on ≠ i) → oi.apart ops oj = true) →
      i ∈ Region.ready md ops done → YieldsIf P ops T oi v a → T w → AnyT P md ops Q S L n (done.setIfInBounds i true) (a.put oi.dst v) w → AnyT P md ops Q S L (n + 1) done a w := by
  intro n
  induction n with
  | zero =>
    intro done a w _ hr hy ht H
    refine ⟨fun h0 => (by rw [h0] at hr; cases hr), fun j hj => ?_⟩
    rcases Nat.decEq j i with hji | rfl
    · have hm := ready_mono hj hji
      rw [H.1] at hm
      cases hm
    · exact hy.wpOp hi ht ⟨fun h _ => h, H⟩
  | succ n ih =>
    intro done a w hfree hr hy ht H
    refine ⟨fun h0 => (by rw [h0] at hr; cases hr), fun j hj => ?_⟩
    rcases Nat.decEq j i with hji | rfl
    case isTrue => exact hy.wpOp hi ht ⟨fun h _ => h, H⟩
    have h1 := H.2 j (ready_mono hj hji)
    obtain ⟨hun, oj, hoj, hall⟩ := mem_ready.1 hj
    have hr0 := (mem_ready.1 hr).1
    have hno : ∀ e ∈ oj.after, Region.binds md e = true → e.on ≠ i := by
      intro e he hb heq
      have h2 := hall e he hb
      rw [heq] at h2
      rcases Nat.lt_or_ge i done.size with hl | hl
      · simp [hl] at hr0 h2
        rw [hr0] at h2
        cases h2
      · simp [Array.getElem?_eq_none hl] at h2
    have h2 := wpOp_putIf hoj (hfree j oj hoj hji hun hno) (fun cs b => hsel i oi cs b hi) (fun cs b => hsel j oj cs b hoj) hQ hy h1
    refine wpOp_mono (fun a' w' h3 => ⟨h3.2.1, ih (done.setIfInBounds j true) a' w' ?_ (ready_mono hr (Ne.symm hji)) h3.1 (hT j oj hoj hno w w' ht h3.2.1) ?_⟩) h2
    · intro k ok hk hki hku hkn
      refine hfree k ok hk hki ?_ hkn
      rcases Nat.decEq j k with hjk | rfl
      · rw [getD_set_ne true hjk] at hku
        exact hku
      · exact hun
    · rw [Array.setIfInBounds_comm _ _ hji]
      exact h3.2.2

/-- Number L waits for number i, in so many words. -/
def waits (md : Region.Mode) (ops : Array Oper) (L i : Nat) : Bool :=
  match ops[L]? with
  | some o => o.after.any fun e => Region.binds md e && e.on == i
  | none => true

/-- A load is taken first: S gives what it reads. -/
theorem AnyT.takeS {i : Nat} {oi : Oper} {d : Option Tmp} {v : Value} {n : Nat} {done : Array Bool} {a : Act} {w : World} (hi : ops[i]? = some oi) (hd : oi.dst = d)
    (hs : Region.noSelect ops = true) (hf : Region.free md ops done i = true) (hr : (Region.ready md ops done).contains i = true) (hL : waits md ops L i = true)
    (hQ : ∀ c a w, Q (.panic c) (a.put d v) w → Q (.panic c) a w) (hw : Region.wanted oi (yielded ops a.tmps) = true) (hS : S w)
    (hy : ∀ w, S w → (execOp a.eval oi).run P w = .ok (.value v) w)
    (h : AnyT P md ops Q S L n (done.setIfInBounds i true) (a.put d v) w) : AnyT P md ops Q S L (n + 1) done a w := by
  subst hd
  refine AnyT.first (T := S) hi (Region.noSelect_spec hs) hQ (fun j oj hj hno w w' hw hjL => hjL hw ?_) n done a w (Region.free_spec hi hf) (by simpa using hr) (Or.inl ⟨hw, hy⟩) hS h
  rintro rfl
  unfold waits at hL
  rw [hj] at hL
  obtain ⟨e, he, hb⟩ := Array.any_eq_true'.1 hL
  simp only [Bool.and_eq_true, beq_iff_eq] at hb
  exact hno e he hb.1 hb.2

/-- What yields in whatever world is taken first. -/
theorem AnyT.takeY {i : Nat} {oi : Oper} {d : Option Tmp} {v : Value} {n : Nat} {done : Array Bool} {a : Act} {w : World} (hi : ops[i]? = some oi) (hd : oi.dst = d)
    (hs : Region.noSelect ops = true) (hf : Region.free md ops done i = true) (hr : (Region.ready md ops done).contains i = true)
    (hQ : ∀ c a w, Q (.panic c) (a.put d v) w → Q (.panic c) a w) (hw : Region.wanted oi (yielded ops a.tmps) = true)
    (hy : ∀ w, (execOp a.eval oi).run P w = .ok (.value v) w)
    (h : AnyT P md ops Q S L n (done.setIfInBounds i true) (a.put d v) w) : AnyT P md ops Q S L (n + 1) done a w := by
  subst hd
  exact AnyT.first (T := fun _ => True) hi (Region.noSelect_spec hs) hQ (fun _ _ _ _ _ _ _ _ => trivial) n done a w (Region.free_spec hi hf) (by simpa using hr) (Or.inl ⟨hw, fun w _ => hy w⟩) trivial h

/-- What its guard leaves out is taken first. -/
theorem AnyT.takeU {i : Nat} {oi : Oper} {d : Option Tmp} {n : Nat} {done : Array Bool} {a : Act} {w : World} (hi : ops[i]? = some oi) (hd : oi.dst = d)
    (hs : Region.noSelect ops = true) (hf : Region.free md ops done i = true) (hr : (Region.ready md ops done).contains i = true)
    (hQ : ∀ c a w, Q (.panic c) (a.put d undef) w → Q (.panic c) a w) (hw : Region.wanted oi (yielded ops a.tmps) = false)
    (h : AnyT P md ops Q S L n (done.setIfInBounds i true) (a.put d undef) w) : AnyT P md ops Q S L (n + 1) done a w := by
  subst hd
  exact AnyT.first (T := fun _ => True) hi (Region.noSelect_spec hs) hQ (fun _ _ _ _ _ _ _ _ => trivial) n done a w (Region.free_spec hi hf) (by simpa using hr) (Or.inr ⟨hw, rfl⟩) trivial h

/-- One operation alone may come up: it is carried out. -/
theorem AnyT.one {i : Nat} {o : Oper} {n : Nat} {done : Array Bool} {a : Act} {w : World} (ho : ops[i]? = some o) (hr : Region.ready md ops done = [i])
    (h : ∀ K' : Act → World → Prop, Shut (∀ a' w', (S w → i ≠ L → S w') → AnyT P md ops Q S L n (done.setIfInBounds i true) a' w' → K' a' w') → if Region.wanted o (yielded ops a.tmps) = true then Oper.wp P o a w K' Q else K' (a.put o.dst undef) w) :
    AnyT P md ops Q S L (n + 1) done a w := by
  refine ⟨fun h0 => (by rw [hr] at h0; cases h0), fun j hj => ?_⟩
  rw [hr] at hj
  obtain rfl : j = i := by simpa using hj
  exact wpOp_step ho (fun K' hK => h K' (fun a' w' hs ht => hK a' w' ⟨hs, ht⟩))

theorem AnyT.end {done : Array Bool} {a : Act} {w : World} (hr : Region.ready md ops done = []) (h : Q .normal a w) : ∀ n, AnyT P md ops Q S L n done a w
  | 0 => ⟨hr, h⟩
  | _ + 1 => ⟨fun _ => h, by rw [hr]; simp⟩

theorem AnyT.begin {id n : Nat} {a : Act} {w : World} (hm : P.follows .mixedOrders = true) (hn : ops.size = n) (h : AnyT P .any ops Q S L n (Array.replicate n false) a w.drew) : (Code.region id ops true).wp P Q a w := by
  subst hn
  exact wp_region_any hm (AnyT.any _ _ _ _ h)
end
end Go.Proofs.YthdnkcofcbinhaaGreatDoor
