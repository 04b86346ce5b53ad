/- kids: the list in the make, and the function that adds to it. -/
import Derived.Test.YthdnkcofcbinhaaGreatDoorTuJ
set_option linter.unusedVariables false
set_option linter.unusedSimpArgs false
namespace Go.Proofs.YthdnkcofcbinhaaGreatDoor
open Go.RowKit

/-- The list in the make: its variable is block o; its Values lie below B. -/
structure KInv (B o : Nat) (l : List Dat) (cv : Value) (css : List (List Value)) (w : World) : Prop where
  box : w.heap[o]? = some (.cells #[cv] 23 (0, 0))
  row : w.ownsRow B 25 5 cv l.length css.flatten
  len : css.length = l.length
  at_ : ∀ j (h : j < l.length) (h' : j < css.length), VA (onS w fun k => k < B) l[j] css[j]
  kbox : cv.ownBlock ≠ some o
  base : B ≤ o
/-- What such a step leaves as it was. -/
structure KStep (o : Nat) (cv cv' : Value) (w w' : World) : Prop where
  os : w'.os = w.os
  tape : w'.tape = w.tape
  output : w'.output = w.output
  size : w.heap.size ≤ w'.heap.size
  block : ∀ k, k < w.heap.size → k ≠ o → cv.ownBlock ≠ some k → w'.heap[k]? = w.heap[k]?
  own : ∀ k, cv'.ownBlock = some k → cv.ownBlock = some k ∨ w.heap.size ≤ k

theorem KStep.refl (o : Nat) (cv : Value) (w : World) : KStep o cv cv w w := ⟨rfl, rfl, rfl, Nat.le_refl _, fun _ _ _ _ => rfl, fun _ h => .inl h⟩
theorem KStep.trans {o : Nat} {c1 c2 c3 : Value} {w1 w2 w3 : World} (h : KStep o c1 c2 w1 w2) (k : KStep o c2 c3 w2 w3) : KStep o c1 c3 w1 w3 :=
  ⟨k.os.trans h.os, k.tape.trans h.tape, k.output.trans h.output, Nat.le_trans h.size k.size, fun i h1 h2 h3 => (k.block i (Nat.lt_of_lt_of_le h1 h.size) h2 (fun e => by rcases h.own i e with q | q; exact h3 q; omega)).trans (h.block i h1 h2 h3),
    fun i hi => by rcases k.own i hi with q | q; exact h.own i q; exact .inr (Nat.le_trans h.size q)⟩
/-- A step that only makes new blocks and writes them. -/
theorem KStep.up {o : Nat} {c1 c2 : Value} {w w1 w2 : World} (h : KStep o c1 c2 w w1) (k : Below w1.heap.size w1 w2) : KStep o c1 c2 w w2 :=
  h.trans ⟨k.os, k.tape, k.output, k.size, fun i h1 _ _ => k.block i h1, fun _ h => .inl h⟩
/-- A write to a block made since. -/
theorem KStep.set {o g i : Nat} {c1 c2 u : Value} {w w1 : World} (h : KStep o c1 c2 w w1) (hg : w.heap.size ≤ g) : KStep o c1 c2 w (w1.setCell ⟨g, i, none⟩ u) :=
  ⟨h.os, h.tape, h.output, by simpa [World.setCell] using h.size, fun k h1 h2 h3 => (Below.heap_setCell _ _ _ _ (show k ≠ g by omega)).trans (h.block k h1 h2 h3), h.own⟩

theorem KInv.keep {B o : Nat} {l : List Dat} {cv : Value} {css : List (List Value)} {w w1 : World} (I : KInv B o l cv css w) (h1 : ∀ k, k < B → w1.heap[k]? = w.heap[k]?) (h2 : w1.heap[o]? = w.heap[o]?) (h3 : ∀ k, cv.ownBlock = some k → w1.heap[k]? = w.heap[k]?) : KInv B o l cv css w1 :=
  ⟨h2.trans I.box, own_same I.row h3, I.len, fun j a b => (I.at_ j a b).upS h1 (fun _ h => h), I.kbox, I.base⟩
theorem KInv.up {B o : Nat} {l : List Dat} {cv : Value} {css : List (List Value)} {w w1 : World} (I : KInv B o l cv css w) (h : Below w.heap.size w w1) : KInv B o l cv css w1 :=
  I.keep (fun k hk => h.block k (by have := blk_lt I.box; have := I.base; omega)) (h.block _ (blk_lt I.box)) (fun k hk => h.block k (I.row.lt k hk).2)
theorem KInv.set {B o g i : Nat} {u : Value} {l : List Dat} {cv : Value} {css : List (List Value)} {w : World} (I : KInv B o l cv css w) (hB : B ≤ g) (ho : g ≠ o) (hc : cv.ownBlock ≠ some g) : KInv B o l cv css (w.setCell ⟨g, i, none⟩ u) :=
  I.keep (fun k hk => Below.heap_setCell _ _ _ _ (show k ≠ g by omega)) (Below.heap_setCell _ _ _ _ (Ne.symm ho)) (fun k hk => Below.heap_setCell _ _ _ _ (show k ≠ g from fun e => hc (by rw [← e]; exact hk)))

theorem own_sliceN {w : World} {base : Nat} {e : TypeId} {size : Nat} {v : Value} {n : Nat} {xs : List Value} (h : w.ownsRow base e size v n xs) : ∃ A c, v = .slice A n c := by
  rcases h.2 with ⟨hv, h0⟩ | ⟨q, cap, cur, hv, _⟩
  · exact ⟨none, 0, by rw [hv, h0]⟩
  · exact ⟨_, _, hv⟩
/-- The last element of a row that is owned, written anew. -/
theorem own5 {w : World} {B g n cap : Nat} {e : TypeId} {xs : List Value} {z0 z1 z2 z3 z4 : Value} (hx : xs.length = n * 5) (h : w.ownsRow B e 5 (.slice (some ⟨g, 0, none⟩) (n + 1) cap) (n + 1) (xs ++ [z0, z1, z2, z3, z4])) (b0 b1 b2 b3 b4 : Value) :
    (((((w.setCell ⟨g, n * 5, none⟩ b0).setCell ⟨g, n * 5 + 1, none⟩ b1).setCell ⟨g, n * 5 + 2, none⟩ b2).setCell ⟨g, n * 5 + 3, none⟩ b3).setCell ⟨g, n * 5 + 4, none⟩ b4).ownsRow B e 5 (.slice (some ⟨g, 0, none⟩) (n + 1) cap) (n + 1) (xs ++ [b0, b1, b2, b3, b4]) := by
  have h0 := (h.stored (n * 5) b0).1
  have h1 := (h0.stored (n * 5 + 1) b1).1
  have h2 := (h1.stored (n * 5 + 2) b2).1
  have h3 := (h2.stored (n * 5 + 3) b3).1
  have h4 := (h3.stored (n * 5 + 4) b4).1
  have e : (((((xs ++ [z0, z1, z2, z3, z4]).set (n * 5) b0).set (n * 5 + 1) b1).set (n * 5 + 2) b2).set (n * 5 + 3) b3).set (n * 5 + 4) b4 = xs ++ [b0, b1, b2, b3, b4] := by
    rw [← hx]
    simp [List.set_append]
  rw [e] at h4
  exact h4
theorem far5 {w : World} {g k i0 i1 i2 i3 i4 : Nat} (h : k ≠ g) (b0 b1 b2 b3 b4 : Value) :
    (((((w.setCell ⟨g, i0, none⟩ b0).setCell ⟨g, i1, none⟩ b1).setCell ⟨g, i2, none⟩ b2).setCell ⟨g, i3, none⟩ b3).setCell ⟨g, i4, none⟩ b4).heap[k]? = w.heap[k]? := by
  rw [Below.heap_setCell _ _ _ _ h, Below.heap_setCell _ _ _ _ h, Below.heap_setCell _ _ _ _ h, Below.heap_setCell _ _ _ _ h, Below.heap_setCell _ _ _ _ h]

/-- What the function that adds a Value to the list leaves. -/
def GivesKid (B o : Nat) (l : List Dat) (cv : Value) (r : Option (List Value)) (w : World) (e : Ending) (w' : World) : Prop :=
  ∃ (cs : List Value) (cv' : Value) (css' : List (List Value)), (∃ (k n : Int) (t : ByteArray) (a b : Option Addr) (la lb ca cb : Nat), cs = [.int .i64 k, .int .i64 n, .string t, .slice a la ca, .slice b lb cb]) ∧ e = .returned (.agg cs.toArray) ∧ (∀ r', r = some r' → cs = r') ∧ KInv B o l cv' css' w' ∧ KStep o cv cv' w w'

theorem kid_end {B o n gg cap : Nat} {l : List Dat} {cv : Value} {css : List (List Value)} {y : Dat} {w W1 W4 : World} {k0 n0 : Int} {t0 : ByteArray} {a0 b0 : Option Addr} {la lb ca cb : Nat} (hK : KInv B o l cv css w) (hn : l.length = n) (h1 : Below w.heap.size w W1) (hz : W1.heap.size = w.heap.size + 1 + 1)
    (hv : VA (onS w fun k => k < B) y [.int .i64 k0, .int .i64 n0, .string t0, .slice a0 la ca, .slice b0 lb cb])
    (e1 : W4.heap[o]? = some (.cells #[.slice (some ⟨gg, 0, none⟩) (n + 1) cap] 23 (0, 0))) (e2 : W4.ownsRow B 25 5 (.slice (some ⟨gg, 0, none⟩) (n + 1) cap) (n + 1) (css.flatten ++ [.int .i64 k0, .int .i64 n0, .string t0, .slice a0 la ca, .slice b0 lb cb]))
    (e3 : ∀ k, k < W1.heap.size → k ≠ o → cv.ownBlock ≠ some k → W4.heap[k]? = W1.heap[k]?) (e4 : W1.heap.size ≤ W4.heap.size) (e5 : W4.os = w.os ∧ W4.tape = w.tape ∧ W4.output = w.output) (e6 : cv.ownBlock = some gg ∨ W1.heap.size ≤ gg) (e7 : gg ≠ o) :
    GivesKid B o (l ++ [y]) cv (some [.int .i64 k0, .int .i64 n0, .string t0, .slice a0 la ca, .slice b0 lb cb]) w (.returned (.agg #[.int .i64 k0, .int .i64 n0, .string t0, .slice a0 la ca, .slice b0 lb cb]))
      (((((W4.setCell ⟨w.heap.size + 1, 0, none⟩ (.int .i64 k0)).setCell ⟨w.heap.size + 1, 1, none⟩ (.int .i64 n0)).setCell ⟨w.heap.size + 1, 2, none⟩ (.string t0)).setCell ⟨w.heap.size + 1, 3, none⟩ (.slice a0 la ca)).setCell ⟨w.heap.size + 1, 4, none⟩ (.slice b0 lb cb)) := by
  have hol := blk_lt hK.box
  have hB := hK.base
  have hrl := hK.row.lt
  have hst : KStep o cv (.slice (some ⟨gg, 0, none⟩) (n + 1) cap) w W4 := ⟨e5.1, e5.2.1, e5.2.2, by omega, fun k q1 q2 q3 => (e3 k (by omega) q2 q3).trans (h1.block k q1), fun k h => by
    simp only [Value.ownBlock, Option.some.injEq] at h
    rcases e6 with q | q
    · exact .inl (by rw [q, h])
    · exact .inr (by omega)⟩
  have low : ∀ k, k < B → W4.heap[k]? = w.heap[k]? := fun k hk => hst.block k (by omega) (by omega) (fun e => by have := (hrl k e).1; omega)
  have hI : KInv B o (l ++ [y]) (.slice (some ⟨gg, 0, none⟩) (n + 1) cap) (css ++ [[.int .i64 k0, .int .i64 n0, .string t0, .slice a0 la ca, .slice b0 lb cb]]) W4 := by
    refine ⟨e1, ?_, by simp [hK.len], fun j a b => ?_, by simp [Value.ownBlock]; exact e7, hB⟩
    · rw [List.length_append, List.flatten_append, hn]
      simpa using e2
    · rcases Nat.lt_or_ge j l.length with hj | hj
      · have hj' : j < css.length := by rw [hK.len]; exact hj
        have q1 : (l ++ [y])[j] = l[j] := List.getElem_append_left hj
        have q2 : (css ++ [[(Value.int .i64 k0), .int .i64 n0, .string t0, .slice a0 la ca, .slice b0 lb cb]])[j] = css[j] := List.getElem_append_left hj'
        rw [q1, q2]
        exact (hK.at_ j hj hj').upS low (fun _ h => h)
      · have hl := hK.len
        obtain rfl : j = l.length := by simp at a; omega
        have q1 : (l ++ [y])[l.length]'a = y := by simp
        have q2 : (css ++ [[(Value.int .i64 k0), .int .i64 n0, .string t0, .slice a0 la ca, .slice b0 lb cb]])[l.length]'b = [(Value.int .i64 k0), .int .i64 n0, .string t0, .slice a0 la ca, .slice b0 lb cb] := by simp [← hl]
        rw [q1, q2]
        exact hv.upS low (fun _ h => h)
  have hg : (Value.slice (some ⟨gg, 0, none⟩) (n + 1) cap).ownBlock ≠ some (w.heap.size + 1) := by
    simp only [Value.ownBlock, ne_eq, Option.some.injEq]
    rcases e6 with q | q
    · have := (hrl gg q).2
      omega
    · omega
  refine ⟨[.int .i64 k0, .int .i64 n0, .string t0, .slice a0 la ca, .slice b0 lb cb], .slice (some ⟨gg, 0, none⟩) (n + 1) cap, css ++ [[.int .i64 k0, .int .i64 n0, .string t0, .slice a0 la ca, .slice b0 lb cb]], ⟨k0, n0, t0, a0, b0, la, lb, ca, cb, rfl⟩, rfl, fun r h => by simpa using h, ?_, ((((hst.set (by omega)).set (by omega)).set (by omega)).set (by omega)).set (by omega)⟩
  · exact hI.keep (fun k hk => set5_far (by omega) _ _ _ _ _) (set5_far (by omega) _ _ _ _ _) (fun k hk => set5_far (fun e => hg (by rw [← e]; exact hk)) _ _ _ _ _)

set_option maxRecDepth 100000 in
set_option maxHeartbeats 8000000 in
theorem kids1_any (B o : Nat) (l : List Dat) (cv : Value) (css : List (List Value)) (y : Dat) (w : World) (cs : List Value) (hK : KInv B o l cv css w) (hl : l.length ≤ 100000) (hv : VA (onS w fun k => k < B) y cs) :
    Calls Tryz.prog 34 #[.agg cs.toArray, .pointer (some ⟨o, 0, none⟩)] w (GivesKid B o (l ++ [y]) cv (some cs) w) := by
  have HV := Lib.hid hv
  obtain ⟨ka, ia, kc, ic, rfl, -⟩ := hv.inv
  obtain ⟨n, hn⟩ : ∃ n, l.length = n := ⟨_, rfl⟩
  have HROW := Lib.hid (show w.ownsRow B 25 5 cv n css.flatten by rw [← hn]; exact hK.row)
  rw [hn] at hl
  have HKK := Lib.hid hK
  have HNN := Lib.hid hn
  clear hv hK hn
  obtain ⟨cA, cC, hcv⟩ := own_sliceN HROW.out
  obtain ⟨i0, hi0, hz0, hzz1, hzz2⟩ := info_parts info_val
  have hob := blk_lt HKK.out.box
  obtain ⟨W1, hW1⟩ : ∃ W1, W1 = ((w.alloc (.cells #[.int .i64 y.kind, .int .i64 y.num, .string y.text, .slice ka y.keys.length kc, .slice ia y.items.length ic] 25 (0, 0))).alloc zero5v).drew := ⟨_, rfl⟩
  have HW1 : Hid (Below w.heap.size w W1) := Lib.hid (by rw [hW1]; exact up_drew (up_alloc (up_alloc (Below.refl _ _) _) _))
  have HZ1 : Hid (W1.heap.size = w.heap.size + 1 + 1) := Lib.hid (by rw [hW1]; simp)
  have HX0 : Hid (W1.heap[w.heap.size]? = some (.cells #[.int .i64 y.kind, .int .i64 y.num, .string y.text, .slice ka y.keys.length kc, .slice ia y.items.length ic] 25 (0, 0))) := Lib.hid (by rw [hW1]; exact blk_up (blk_new w _) (up_drew (up_alloc (Below.refl _ _) _)))
  have HRB : Hid (W1.heap[w.heap.size + 1]? = some zero5v) := Lib.hid (by rw [hW1]; refine blk_up ?_ (up_drew (Below.refl _ _)); simpa using blk_new (w.alloc (.cells #[.int .i64 y.kind, .int .i64 y.num, .string y.text, .slice ka y.keys.length kc, .slice ia y.items.length ic] 25 (0, 0))) zero5v)
  have HEQ := Lib.hid hW1
  clear hW1
  go_enter Tryz.func34, Tryz.ntmps34
  go_upto_region 1 with fail
  have HSS : Hid (∀ W : World, W.heap[o]? = some (.cells #[cv] 23 (0, 0)) → W.heap[w.heap.size]? = some (.cells #[.int .i64 y.kind, .int .i64 y.num, .string y.text, .slice ka y.keys.length kc, .slice ia y.items.length ic] 25 (0, 0)) →
    W.heap[o]? = some (.cells #[cv] 23 (0, 0)) ∧ W.heap[w.heap.size]? = some (.cells #[.int .i64 y.kind, .int .i64 y.num, .string y.text, .slice ka y.keys.length kc, .slice ia y.items.length ic] 25 (0, 0)) ∧
      W.cell? ⟨o, 0, none⟩ = some cv ∧ W.cell? ⟨w.heap.size, 0, none⟩ = some (.int .i64 y.kind) ∧ W.cell? ⟨w.heap.size, 1, none⟩ = some (.int .i64 y.num) ∧ W.cell? ⟨w.heap.size, 2, none⟩ = some (.string y.text) ∧
      W.cell? ⟨w.heap.size, 3, none⟩ = some (.slice ka y.keys.length kc) ∧ W.cell? ⟨w.heap.size, 4, none⟩ = some (.slice ia y.items.length ic)
    ) := Lib.hid (fun W h1 h2 => ⟨h1, h2, (blk_cell h1 0).trans rfl, (blk_cell h2 0).trans rfl, (blk_cell h2 1).trans rfl, (blk_cell h2 2).trans rfl, (blk_cell h2 3).trans rfl, (blk_cell h2 4).trans rfl⟩)
  refine AnyT.begin (L := 7) (n := 8) (S := fun w' =>
    w'.heap[o]? = some (.cells #[cv] 23 (0, 0)) ∧ w'.heap[w.heap.size]? = some (.cells #[.int .i64 y.kind, .int .i64 y.num, .string y.text, .slice ka y.keys.length kc, .slice ia y.items.length ic] 25 (0, 0)) ∧
      w'.cell? ⟨o, 0, none⟩ = some cv ∧ w'.cell? ⟨w.heap.size, 0, none⟩ = some (.int .i64 y.kind) ∧ w'.cell? ⟨w.heap.size, 1, none⟩ = some (.int .i64 y.num) ∧ w'.cell? ⟨w.heap.size, 2, none⟩ = some (.string y.text) ∧
      w'.cell? ⟨w.heap.size, 3, none⟩ = some (.slice ka y.keys.length kc) ∧ w'.cell? ⟨w.heap.size, 4, none⟩ = some (.slice ia y.items.length ic)
    ) (by kernel_rfl) rfl ?_
  have he := HEQ.out
  unfold zero5v at he
  rw [← he]
  clear he
  have S0 := HSS.out W1 ((HW1.out.block o hob).trans HKK.out.box) HX0.out
  subst hcv
  refine AnyT.takeS (i := 0) (d := some 4) (v := ?_) rfl rfl (by kernel_rfl) (by kernel_rfl) (by kernel_rfl) (by kernel_rfl) (fun _ _ _ h => h) (by rfl) (by assumption) ?_ ?_
  rotate_left
  · intro W hSw
    try dsimp only at hSw
    go_simp
    with_reducible rfl
  try simp only [Act.put, List.setIfInBounds_toArray, List.set_cons_zero, List.set_cons_succ]
  refine AnyT.takeS (i := 1) (d := some 5) (v := ?_) rfl rfl (by kernel_rfl) (by kernel_rfl) (by kernel_rfl) (by kernel_rfl) (fun _ _ _ h => h) (by rfl) (by assumption) ?_ ?_
  rotate_left
  · intro W hSw
    try dsimp only at hSw
    go_simp
    with_reducible rfl
  try simp only [Act.put, List.setIfInBounds_toArray, List.set_cons_zero, List.set_cons_succ]
  refine AnyT.takeY (i := 2) (d := some 6) (v := ?_) rfl rfl (by kernel_rfl) (by kernel_rfl) (by kernel_rfl) (fun _ _ _ h => h) (by rfl) ?_ ?_
  rotate_left
  · intro W
    go_simp
    with_reducible rfl
  try simp only [Act.put, List.setIfInBounds_toArray, List.set_cons_zero, List.set_cons_succ]
  clear S0
  have hBw : B ≤ W1.heap.size := by have := HW1.out.size; have := HKK.out.base; omega
  have HR1 := Lib.hid (own_up HROW.out HW1.out)
  refine AnyT.one (i := 3) rfl (by kernel_rfl) (fun K' hK => ?_)
  go_simp
  refine hK.out _ _ (fun _ _ => HSS.out _ (blk_up ((HW1.out.block o hob).trans HKK.out.box) (up_alloc (Below.refl _ _) _)) (blk_up HX0.out (up_alloc (Below.refl _ _) _))) ?_
  clear hK K'
  try simp only [Act.put, List.setIfInBounds_toArray, List.set_cons_zero, List.set_cons_succ]
  refine AnyT.one (i := 4) rfl (by kernel_rfl) (fun K' hK => ?_)
  refine step_append_lies _ (by rfl) _ _ _ (by rfl) B 25 i0 _ 5 80 Tryz.underlying23 hi0 hz0 hzz1 hzz2 rfl (by omega) _ n css.flatten (by rfl) ((HR1.out).alloc _)
    ⟨W1.heap.size, 0, none⟩ 1 1 [.int .i64 0, .int .i64 0, .string ⟨#[]⟩, .slice none 0 0, .slice none 0 0] (by rfl) (by rfl) (World.news_of_block (cs := #[.int .i64 0, .int .i64 0, .string ⟨#[]⟩, .slice none 0 0, .slice none 0 0]) (t := 25) (fr := (0, 0)) (heap_alloc_new W1 _)) (by simp [Value.oneCell'])
    (by omega) (by unfold maxLen; omega) (by omega) (by simp; omega) (W1.heap.size + 1) (by simp) ?_
  intro gg cap w3 hown3 hgrow hat hlt3
  have HOWN := Lib.hid hown3
  have HGROW := Lib.hid hgrow
  have HAT := Lib.hid hat
  have far : ∀ k, k < W1.heap.size → (Value.slice cA n cC).ownBlock ≠ some k → w3.heap[k]? = W1.heap[k]? := fun k h1 h2 => by
    rw [hgrow.block k (by simp; omega) (fun e => h2 e.symm)]
    exact Below.heap_alloc _ _ _ h1
  have HFAR := Lib.hid far
  have HO3 := Lib.hid ((far o (by have := HW1.out.size; omega) HKK.out.kbox).trans ((HW1.out.block o hob).trans HKK.out.box))
  have HX3 := Lib.hid ((far w.heap.size (by have := HZ1.out; omega) (fun e => by have := (HROW.out.lt _ e).2; omega)).trans HX0.out)
  have HRB3 := Lib.hid ((far (w.heap.size + 1) (by have := HZ1.out; omega) (fun e => by have := (HROW.out.lt _ e).2; omega)).trans HRB.out)
  have HLT3 := Lib.hid hlt3
  clear hown3 hgrow hat far hlt3
  refine hK.out _ _ (fun _ _ => HSS.out _ HO3.out HX3.out) ?_
  clear hK K'
  try simp only [Act.put, List.setIfInBounds_toArray, List.set_cons_zero, List.set_cons_succ]
  have hn1 : (n : Int) < (n : Int) + 1 := by omega
  refine AnyT.takeY (i := 5) (d := some 9) (v := ?_) rfl rfl (by kernel_rfl) (by kernel_rfl) (by kernel_rfl) (fun _ _ _ h => h) (by rfl) ?_ ?_
  rotate_left
  · intro W
    go_simp
    with_reducible rfl
  try simp only [Act.put, List.setIfInBounds_toArray, List.set_cons_zero, List.set_cons_succ]
  have hxs : css.flatten.length = n * 5 := HROW.out.1
  have cat : ∀ j, j < 5 → w3.cell? ⟨gg, n * 5 + j, none⟩ = [(Value.int .i64 0), .int .i64 0, .string ⟨#[]⟩, .slice none 0 0, .slice none 0 0][j]? := fun j hj => by
    rw [HOWN.out.cellAt (n * 5 + j) (by omega), List.getElem?_append_right (by omega), hxs]
    congr 1
    omega
  have z0 : w3.cell? ⟨gg, n * 5, none⟩ = some (.int .i64 0) := cat 0 (by omega)
  have z1 : w3.cell? ⟨gg, n * 5 + 1, none⟩ = some (.int .i64 0) := cat 1 (by omega)
  have z2 : w3.cell? ⟨gg, n * 5 + 2, none⟩ = some (.string ⟨#[]⟩) := cat 2 (by omega)
  have z3 : w3.cell? ⟨gg, n * 5 + 3, none⟩ = some (.slice none 0 0) := cat 3 (by omega)
  have z4 : w3.cell? ⟨gg, n * 5 + 4, none⟩ = some (.slice none 0 0) := cat 4 (by omega)
  have y0 : w3.frozen? ⟨gg, n * 5, none⟩ = false := HOWN.out.frozenAt _
  have y1 : w3.frozen? ⟨gg, n * 5 + 1, none⟩ = false := HOWN.out.frozenAt _
  have y2 : w3.frozen? ⟨gg, n * 5 + 2, none⟩ = false := HOWN.out.frozenAt _
  have y3 : w3.frozen? ⟨gg, n * 5 + 3, none⟩ = false := HOWN.out.frozenAt _
  have y4 : w3.frozen? ⟨gg, n * 5 + 4, none⟩ = false := HOWN.out.frozenAt _
  have o0 : w3.cell? ⟨o, 0, none⟩ = some (.slice cA n cC) := (blk_cell HO3.out 0).trans rfl
  have o1 : w3.frozen? ⟨o, 0, none⟩ = false := blk_frozen HO3.out 0
  have hgo : gg ≠ o := by
    rcases HAT.out with h | h
    · exact fun e => HKK.out.kbox (by rw [h, e])
    · have := HW1.out.size
      omega
  clear cat
  have hgx : gg ≠ w.heap.size ∧ gg ≠ w.heap.size + 1 := by
    rcases HAT.out with h | h
    · have := (HROW.out.lt gg h).2
      omega
    · have := HZ1.out
      omega
  have hat2 : (Value.slice cA n cC).ownBlock = some gg ∨ W1.heap.size ≤ gg := HAT.out.imp id (fun h => by omega)
  have hos3 : w3.os = w.os ∧ w3.tape = w.tape ∧ w3.output = w.output := ⟨HGROW.out.os.trans HW1.out.os, HGROW.out.tape.trans HW1.out.tape, HGROW.out.output.trans HW1.out.output⟩
  have HOS := Lib.hid hos3
  have hsz3 : W1.heap.size ≤ w3.heap.size := by have := HGROW.out.size; simp at this; omega
  have HOWN2 := Lib.hid (own5 hxs HOWN.out (.int .i64 y.kind) (.int .i64 y.num) (.string y.text) (.slice ka y.keys.length kc) (.slice ia y.items.length ic))
  clear hos3
  refine AnyT.two (i := 6) (j := 7) rfl rfl (by kernel_rfl) (fun K' hK => ?_) (fun K' hK => ?_)
  · go_simp
    have HO5 := Lib.hid ((far5 (i0 := n * 5) (i1 := n * 5 + 1) (i2 := n * 5 + 2) (i3 := n * 5 + 3) (i4 := n * 5 + 4) (w := w3) (Ne.symm hgo) (.int .i64 y.kind) (.int .i64 y.num) (.string y.text) (.slice ka y.keys.length kc) (.slice ia y.items.length ic)).trans HO3.out)
    have HX5 := Lib.hid ((far5 (i0 := n * 5) (i1 := n * 5 + 1) (i2 := n * 5 + 2) (i3 := n * 5 + 3) (i4 := n * 5 + 4) (w := w3) (Ne.symm hgx.1) (.int .i64 y.kind) (.int .i64 y.num) (.string y.text) (.slice ka y.keys.length kc) (.slice ia y.items.length ic)).trans HX3.out)
    have HR5 := Lib.hid ((far5 (i0 := n * 5) (i1 := n * 5 + 1) (i2 := n * 5 + 2) (i3 := n * 5 + 3) (i4 := n * 5 + 4) (w := w3) (Ne.symm hgx.2) (.int .i64 y.kind) (.int .i64 y.num) (.string y.text) (.slice ka y.keys.length kc) (.slice ia y.items.length ic)).trans HRB3.out)
    have HF5 := Lib.hid (fun k (hk : k ≠ gg) => far5 (i0 := n * 5) (i1 := n * 5 + 1) (i2 := n * 5 + 2) (i3 := n * 5 + 3) (i4 := n * 5 + 4) (w := w3) hk (.int .i64 y.kind) (.int .i64 y.num) (.string y.text) (.slice ka y.keys.length kc) (.slice ia y.items.length ic))
    have HS5 : Hid ((((((w3.setCell ⟨gg, n * 5, none⟩ (.int .i64 y.kind)).setCell ⟨gg, n * 5 + 1, none⟩ (.int .i64 y.num)).setCell ⟨gg, n * 5 + 2, none⟩ (.string y.text)).setCell ⟨gg, n * 5 + 3, none⟩ (.slice ka y.keys.length kc)).setCell ⟨gg, n * 5 + 4, none⟩ (.slice ia y.items.length ic)).heap.size = w3.heap.size) := Lib.hid (by simp [World.setCell])
    have HOS5 : Hid ((((((w3.setCell ⟨gg, n * 5, none⟩ (.int .i64 y.kind)).setCell ⟨gg, n * 5 + 1, none⟩ (.int .i64 y.num)).setCell ⟨gg, n * 5 + 2, none⟩ (.string y.text)).setCell ⟨gg, n * 5 + 3, none⟩ (.slice ka y.keys.length kc)).setCell ⟨gg, n * 5 + 4, none⟩ (.slice ia y.items.length ic)).os = w.os ∧
      (((((w3.setCell ⟨gg, n * 5, none⟩ (.int .i64 y.kind)).setCell ⟨gg, n * 5 + 1, none⟩ (.int .i64 y.num)).setCell ⟨gg, n * 5 + 2, none⟩ (.string y.text)).setCell ⟨gg, n * 5 + 3, none⟩ (.slice ka y.keys.length kc)).setCell ⟨gg, n * 5 + 4, none⟩ (.slice ia y.items.length ic)).tape = w.tape ∧
      (((((w3.setCell ⟨gg, n * 5, none⟩ (.int .i64 y.kind)).setCell ⟨gg, n * 5 + 1, none⟩ (.int .i64 y.num)).setCell ⟨gg, n * 5 + 2, none⟩ (.string y.text)).setCell ⟨gg, n * 5 + 3, none⟩ (.slice ka y.keys.length kc)).setCell ⟨gg, n * 5 + 4, none⟩ (.slice ia y.items.length ic)).output = w.output) := Lib.hid ⟨HOS.out.1, HOS.out.2.1, HOS.out.2.2⟩
    refine hK.out _ _ (fun _ _ => HSS.out _ HO5.out HX5.out) ?_
    clear hK K'
    try simp only [Act.put, List.setIfInBounds_toArray, List.set_cons_zero, List.set_cons_succ]
    generalize ((((w3.setCell ⟨gg, n * 5, none⟩ (.int .i64 y.kind)).setCell ⟨gg, n * 5 + 1, none⟩ (.int .i64 y.num)).setCell ⟨gg, n * 5 + 2, none⟩ (.string y.text)).setCell ⟨gg, n * 5 + 3, none⟩ (.slice ka y.keys.length kc)).setCell ⟨gg, n * 5 + 4, none⟩ (.slice ia y.items.length ic) = w5 at HO5 HX5 HR5 HF5 HS5 HOS5 HOWN2 ⊢
    have v0 : w5.cell? ⟨o, 0, none⟩ = some (.slice cA n cC) := (blk_cell HO5.out 0).trans rfl
    have v1 : w5.frozen? ⟨o, 0, none⟩ = false := blk_frozen HO5.out 0
    refine AnyT.one (i := 7) rfl (by kernel_rfl) (fun K' hK => ?_)
    go_simp
    refine hK.out _ _ (fun _ h => absurd rfl h) ?_
    clear hK K' v0 v1
    refine AnyT.end (by kernel_rfl) ?_ _
    try simp only [Act.put, List.setIfInBounds_toArray, List.set_cons_zero, List.set_cons_succ]
    clear o0 o1 z0 z1 z2 z3 z4 y0 y1 y2 y3 y4
    have HE1 : Hid ((w5.setCell ⟨o, 0, none⟩ (.slice (some ⟨gg, 0, none⟩) (n + 1) cap)).heap[o]? = some (.cells #[.slice (some ⟨gg, 0, none⟩) (n + 1) cap] 23 (0, 0))) := Lib.hid (by
      simp only [World.setCell, Array.getElem?_modify, if_true, HO5.out]
      rfl)
    have hfar : ∀ k, k ≠ o → (w5.setCell ⟨o, 0, none⟩ (.slice (some ⟨gg, 0, none⟩) (n + 1) cap)).heap[k]? = w5.heap[k]? := fun k hk => Below.heap_setCell _ _ _ _ hk
    have HE2 := Lib.hid (own_same HOWN2.out (fun k hk => hfar k (by simp only [Value.ownBlock, Option.some.injEq] at hk; omega)))
    have HE3 := Lib.hid (fun k (q1 : k < W1.heap.size) (q2 : k ≠ o) (q3 : (Value.slice cA n cC).ownBlock ≠ some k) => (hfar k q2).trans ((HF5.out k (by rcases hat2 with h | h; exact fun e => q3 (by rw [h, e]); omega)).trans (HFAR.out k q1 q3)))
    have HE4 : Hid (W1.heap.size ≤ (w5.setCell ⟨o, 0, none⟩ (.slice (some ⟨gg, 0, none⟩) (n + 1) cap)).heap.size) := Lib.hid (by have := HS5.out; simp [World.setCell] at this ⊢; omega)
    have HE5 : Hid ((w5.setCell ⟨o, 0, none⟩ (.slice (some ⟨gg, 0, none⟩) (n + 1) cap)).os = w.os ∧ (w5.setCell ⟨o, 0, none⟩ (.slice (some ⟨gg, 0, none⟩) (n + 1) cap)).tape = w.tape ∧ (w5.setCell ⟨o, 0, none⟩ (.slice (some ⟨gg, 0, none⟩) (n + 1) cap)).output = w.output) := Lib.hid HOS5.out
    have HX4 := Lib.hid ((hfar w.heap.size (by omega)).trans HX5.out)
    have HR4 := Lib.hid ((hfar (w.heap.size + 1) (by omega)).trans HR5.out)
    generalize w5.setCell ⟨o, 0, none⟩ (.slice (some ⟨gg, 0, none⟩) (n + 1) cap) = w6 at HE1 HE2 HE3 HE4 HE5 HX4 HR4 ⊢
    clear hfar
    have p0 : w6.frozen? ⟨w.heap.size + 1, 0, none⟩ = false := blk_frozen HR4.out 0
    have p1 : w6.frozen? ⟨w.heap.size + 1, 1, none⟩ = false := blk_frozen HR4.out 1
    have p2 : w6.frozen? ⟨w.heap.size + 1, 2, none⟩ = false := blk_frozen HR4.out 2
    have p3 : w6.frozen? ⟨w.heap.size + 1, 3, none⟩ = false := blk_frozen HR4.out 3
    have p4 : w6.frozen? ⟨w.heap.size + 1, 4, none⟩ = false := blk_frozen HR4.out 4
    have r0 := (blk_cell HR4.out 0).trans rfl
    have r1 := (blk_cell HR4.out 1).trans rfl
    have r2 := (blk_cell HR4.out 2).trans rfl
    have r3 := (blk_cell HR4.out 3).trans rfl
    have r4 := (blk_cell HR4.out 4).trans rfl
    have x0 : w6.cell? ⟨w.heap.size, 0, none⟩ = some (.int .i64 y.kind) := (blk_cell HX4.out 0).trans rfl
    have x1 : w6.cell? ⟨w.heap.size, 1, none⟩ = some (.int .i64 y.num) := (blk_cell HX4.out 1).trans rfl
    have x2 : w6.cell? ⟨w.heap.size, 2, none⟩ = some (.string y.text) := (blk_cell HX4.out 2).trans rfl
    have x3 : w6.cell? ⟨w.heap.size, 3, none⟩ = some (.slice ka y.keys.length kc) := (blk_cell HX4.out 3).trans rfl
    have x4 : w6.cell? ⟨w.heap.size, 4, none⟩ = some (.slice ia y.items.length ic) := (blk_cell HX4.out 4).trans rfl
    go_wp2
    refine ret_val rfl rfl rfl (set5 HR4.out _ _ _ _ _) ?_
    exact kid_end HKK.out HNN.out HW1.out HZ1.out HV.out HE1.out HE2.out HE3.out HE4.out HE5.out hat2 hgo
  · go_simp
    have HE1 : Hid ((w3.setCell ⟨o, 0, none⟩ (.slice (some ⟨gg, 0, none⟩) (n + 1) cap)).heap[o]? = some (.cells #[.slice (some ⟨gg, 0, none⟩) (n + 1) cap] 23 (0, 0))) := Lib.hid (by
      simp only [World.setCell, Array.getElem?_modify, if_true, HO3.out]
      rfl)
    have hfar : ∀ k, k ≠ o → (w3.setCell ⟨o, 0, none⟩ (.slice (some ⟨gg, 0, none⟩) (n + 1) cap)).heap[k]? = w3.heap[k]? := fun k hk => Below.heap_setCell _ _ _ _ hk
    have HOWN3 := Lib.hid (own_same HOWN.out (fun k hk => hfar k (by simp only [Value.ownBlock, Option.some.injEq] at hk; omega)))
    have HX5 := Lib.hid ((hfar w.heap.size (by omega)).trans HX3.out)
    have HR5 := Lib.hid ((hfar (w.heap.size + 1) (by omega)).trans HRB3.out)
    have HF5 := Lib.hid hfar
    have HS5 : Hid ((w3.setCell ⟨o, 0, none⟩ (.slice (some ⟨gg, 0, none⟩) (n + 1) cap)).heap.size = w3.heap.size) := Lib.hid (by simp [World.setCell])
    have HOS5 : Hid ((w3.setCell ⟨o, 0, none⟩ (.slice (some ⟨gg, 0, none⟩) (n + 1) cap)).os = w.os ∧ (w3.setCell ⟨o, 0, none⟩ (.slice (some ⟨gg, 0, none⟩) (n + 1) cap)).tape = w.tape ∧ (w3.setCell ⟨o, 0, none⟩ (.slice (some ⟨gg, 0, none⟩) (n + 1) cap)).output = w.output) := Lib.hid HOS.out
    refine hK.out _ _ (fun _ h => absurd rfl h) ?_
    clear hK K' hfar o0 o1 z0 z1 z2 z3 z4 y0 y1 y2 y3 y4
    try simp only [Act.put, List.setIfInBounds_toArray, List.set_cons_zero, List.set_cons_succ]
    generalize w3.setCell ⟨o, 0, none⟩ (.slice (some ⟨gg, 0, none⟩) (n + 1) cap) = w5 at HE1 HOWN3 HX5 HR5 HF5 HS5 HOS5 ⊢
    have cat : ∀ j, j < 5 → w5.cell? ⟨gg, n * 5 + j, none⟩ = [(Value.int .i64 0), .int .i64 0, .string ⟨#[]⟩, .slice none 0 0, .slice none 0 0][j]? := fun j hj => by
      rw [HOWN3.out.cellAt (n * 5 + j) (by omega), List.getElem?_append_right (by omega), hxs]
      congr 1
      omega
    have z0 : w5.cell? ⟨gg, n * 5, none⟩ = some (.int .i64 0) := cat 0 (by omega)
    have z1 : w5.cell? ⟨gg, n * 5 + 1, none⟩ = some (.int .i64 0) := cat 1 (by omega)
    have z2 : w5.cell? ⟨gg, n * 5 + 2, none⟩ = some (.string ⟨#[]⟩) := cat 2 (by omega)
    have z3 : w5.cell? ⟨gg, n * 5 + 3, none⟩ = some (.slice none 0 0) := cat 3 (by omega)
    have z4 : w5.cell? ⟨gg, n * 5 + 4, none⟩ = some (.slice none 0 0) := cat 4 (by omega)
    have y0 : w5.frozen? ⟨gg, n * 5, none⟩ = false := HOWN3.out.frozenAt _
    have y1 : w5.frozen? ⟨gg, n * 5 + 1, none⟩ = false := HOWN3.out.frozenAt _
    have y2 : w5.frozen? ⟨gg, n * 5 + 2, none⟩ = false := HOWN3.out.frozenAt _
    have y3 : w5.frozen? ⟨gg, n * 5 + 3, none⟩ = false := HOWN3.out.frozenAt _
    have y4 : w5.frozen? ⟨gg, n * 5 + 4, none⟩ = false := HOWN3.out.frozenAt _
    clear cat
    have HE2 := Lib.hid (own5 hxs HOWN3.out (.int .i64 y.kind) (.int .i64 y.num) (.string y.text) (.slice ka y.keys.length kc) (.slice ia y.items.length ic))
    have HG5 := Lib.hid (fun k (hk : k ≠ gg) => far5 (i0 := n * 5) (i1 := n * 5 + 1) (i2 := n * 5 + 2) (i3 := n * 5 + 3) (i4 := n * 5 + 4) (w := w5) hk (.int .i64 y.kind) (.int .i64 y.num) (.string y.text) (.slice ka y.keys.length kc) (.slice ia y.items.length ic))
    have HS6 : Hid ((((((w5.setCell ⟨gg, n * 5, none⟩ (.int .i64 y.kind)).setCell ⟨gg, n * 5 + 1, none⟩ (.int .i64 y.num)).setCell ⟨gg, n * 5 + 2, none⟩ (.string y.text)).setCell ⟨gg, n * 5 + 3, none⟩ (.slice ka y.keys.length kc)).setCell ⟨gg, n * 5 + 4, none⟩ (.slice ia y.items.length ic)).heap.size = w5.heap.size) := Lib.hid (by simp [World.setCell])
    have HE5 : Hid ((((((w5.setCell ⟨gg, n * 5, none⟩ (.int .i64 y.kind)).setCell ⟨gg, n * 5 + 1, none⟩ (.int .i64 y.num)).setCell ⟨gg, n * 5 + 2, none⟩ (.string y.text)).setCell ⟨gg, n * 5 + 3, none⟩ (.slice ka y.keys.length kc)).setCell ⟨gg, n * 5 + 4, none⟩ (.slice ia y.items.length ic)).os = w.os ∧
      (((((w5.setCell ⟨gg, n * 5, none⟩ (.int .i64 y.kind)).setCell ⟨gg, n * 5 + 1, none⟩ (.int .i64 y.num)).setCell ⟨gg, n * 5 + 2, none⟩ (.string y.text)).setCell ⟨gg, n * 5 + 3, none⟩ (.slice ka y.keys.length kc)).setCell ⟨gg, n * 5 + 4, none⟩ (.slice ia y.items.length ic)).tape = w.tape ∧
      (((((w5.setCell ⟨gg, n * 5, none⟩ (.int .i64 y.kind)).setCell ⟨gg, n * 5 + 1, none⟩ (.int .i64 y.num)).setCell ⟨gg, n * 5 + 2, none⟩ (.string y.text)).setCell ⟨gg, n * 5 + 3, none⟩ (.slice ka y.keys.length kc)).setCell ⟨gg, n * 5 + 4, none⟩ (.slice ia y.items.length ic)).output = w.output) := Lib.hid ⟨HOS5.out.1, HOS5.out.2.1, HOS5.out.2.2⟩
    refine AnyT.one (i := 6) rfl (by kernel_rfl) (fun K' hK => ?_)
    go_simp
    refine hK.out _ _ (fun hSw _ => HSS.out _ ((HG5.out o (Ne.symm hgo)).trans hSw.1) ((HG5.out _ (Ne.symm hgx.1)).trans hSw.2.1)) ?_
    clear hK K' z0 z1 z2 z3 z4 y0 y1 y2 y3 y4
    refine AnyT.end (by kernel_rfl) ?_ _
    try simp only [Act.put, List.setIfInBounds_toArray, List.set_cons_zero, List.set_cons_succ]
    generalize ((((w5.setCell ⟨gg, n * 5, none⟩ (.int .i64 y.kind)).setCell ⟨gg, n * 5 + 1, none⟩ (.int .i64 y.num)).setCell ⟨gg, n * 5 + 2, none⟩ (.string y.text)).setCell ⟨gg, n * 5 + 3, none⟩ (.slice ka y.keys.length kc)).setCell ⟨gg, n * 5 + 4, none⟩ (.slice ia y.items.length ic) = w6 at HE2 HG5 HS6 HE5 ⊢
    have HE1b := Lib.hid ((HG5.out o (Ne.symm hgo)).trans HE1.out)
    have HE3 := Lib.hid (fun k (q1 : k < W1.heap.size) (q2 : k ≠ o) (q3 : (Value.slice cA n cC).ownBlock ≠ some k) => (HG5.out k (by rcases hat2 with h | h; exact fun e => q3 (by rw [h, e]); omega)).trans ((HF5.out k q2).trans (HFAR.out k q1 q3)))
    have HE4 : Hid (W1.heap.size ≤ w6.heap.size) := Lib.hid (by have := HS5.out; have := HS6.out; omega)
    have HX4 := Lib.hid ((HG5.out w.heap.size (Ne.symm hgx.1)).trans HX5.out)
    have HR4 := Lib.hid ((HG5.out (w.heap.size + 1) (Ne.symm hgx.2)).trans HR5.out)
    clear HE1
    have HE1 := HE1b
    have p0 : w6.frozen? ⟨w.heap.size + 1, 0, none⟩ = false := blk_frozen HR4.out 0
    have p1 : w6.frozen? ⟨w.heap.size + 1, 1, none⟩ = false := blk_frozen HR4.out 1
    have p2 : w6.frozen? ⟨w.heap.size + 1, 2, none⟩ = false := blk_frozen HR4.out 2
    have p3 : w6.frozen? ⟨w.heap.size + 1, 3, none⟩ = false := blk_frozen HR4.out 3
    have p4 : w6.frozen? ⟨w.heap.size + 1, 4, none⟩ = false := blk_frozen HR4.out 4
    have r0 := (blk_cell HR4.out 0).trans rfl
    have r1 := (blk_cell HR4.out 1).trans rfl
    have r2 := (blk_cell HR4.out 2).trans rfl
    have r3 := (blk_cell HR4.out 3).trans rfl
    have r4 := (blk_cell HR4.out 4).trans rfl
    have x0 : w6.cell? ⟨w.heap.size, 0, none⟩ = some (.int .i64 y.kind) := (blk_cell HX4.out 0).trans rfl
    have x1 : w6.cell? ⟨w.heap.size, 1, none⟩ = some (.int .i64 y.num) := (blk_cell HX4.out 1).trans rfl
    have x2 : w6.cell? ⟨w.heap.size, 2, none⟩ = some (.string y.text) := (blk_cell HX4.out 2).trans rfl
    have x3 : w6.cell? ⟨w.heap.size, 3, none⟩ = some (.slice ka y.keys.length kc) := (blk_cell HX4.out 3).trans rfl
    have x4 : w6.cell? ⟨w.heap.size, 4, none⟩ = some (.slice ia y.items.length ic) := (blk_cell HX4.out 4).trans rfl
    go_wp2
    refine ret_val rfl rfl rfl (set5 HR4.out _ _ _ _ _) ?_
    exact kid_end HKK.out HNN.out HW1.out HZ1.out HV.out HE1.out HE2.out HE3.out HE4.out HE5.out hat2 hgo
end Go.Proofs.YthdnkcofcbinhaaGreatDoor
