/- turned's function over all items of a list or a map, with the function that adds to kids' list. -/
import Derived.Test.YthdnkcofcbinhaaGreatDoorKdJ
set_option linter.unusedVariables false
set_option linter.unusedSimpArgs false
namespace Go.Proofs.YthdnkcofcbinhaaGreatDoor
open Go.RowKit

/-- The result in the make, beside the list in the make. w: where it began. -/
structure AKI (w : World) (B o ob : Nat) (kind : Int) (l : List Dat) (cv0 kv cv ck : Value) (n : Nat) (xs : List Value) (css : List (List Value)) (wr : World) : Prop where
  out : wr.heap[ob]? = some (outBlk kind kv cv)
  row : wr.ownsRow w.heap.size 25 5 cv n xs
  iout : cv.ownBlock ≠ some ob
  base : w.heap.size ≤ ob
  K : KInv B o l ck css wr
  step : KStep o cv0 ck w wr
  apart : ∀ k, ck.ownBlock = some k → cv.ownBlock ≠ some k ∧ k ≠ ob
  olt : o < w.heap.size

section
variable {w : World} {B o ob : Nat} {kind : Int} {l : List Dat} {cv0 kv cv ck : Value} {n : Nat} {xs : List Value} {css : List (List Value)} {wr : World}
theorem AKI.up (I : AKI w B o ob kind l cv0 kv cv ck n xs css wr) {w1 : World} (h : Below wr.heap.size wr w1) : AKI w B o ob kind l cv0 kv cv ck n xs css w1 :=
  ⟨blk_up I.out h, own_up I.row h, I.iout, I.base, I.K.up h, I.step.up h, I.apart, I.olt⟩
/-- The function that adds was called. -/
theorem AKI.call (I : AKI w B o ob kind l cv0 kv cv ck n xs css wr) {w2 : World} {l' : List Dat} {ck' : Value} {css' : List (List Value)} (h : KInv B o l' ck' css' w2) (k : KStep o ck ck' wr w2) : AKI w B o ob kind l' cv0 kv cv ck' n xs css' w2 := by
  have hol := I.olt
  have hb := I.base
  have hlt := blk_lt I.out
  refine ⟨(k.block ob hlt (by omega) (fun e => (I.apart _ e).2 rfl)).trans I.out, own_same I.row (fun i hi => k.block i (I.row.lt i hi).2 (by have := (I.row.lt i hi).1; omega) (fun e => (I.apart _ e).1 hi)), I.iout, hb, h, I.step.trans k, fun i hi => ?_, hol⟩
  rcases k.own i hi with q | q
  · exact I.apart i q
  · exact ⟨fun e => by have := (I.row.lt i e).2; omega, by omega⟩
/-- A block of its own is written. -/
theorem AKI.set (I : AKI w B o ob kind l cv0 kv cv ck n xs css wr) {g : Nat} (h1 : w.heap.size ≤ g) (h2 : g ≠ ob) (h3 : cv.ownBlock ≠ some g) (h4 : ck.ownBlock ≠ some g) (i : Nat) (u : Value) : AKI w B o ob kind l cv0 kv cv ck n xs css (wr.setCell ⟨g, i, none⟩ u) := by
  have hol := I.olt
  have hB := I.K.base
  exact ⟨(Below.heap_setCell _ _ _ _ (Ne.symm h2)).trans I.out, own_same I.row (fun k hk => Below.heap_setCell _ _ _ _ (show k ≠ g from fun e => h3 (by rw [← e]; exact hk))), I.iout, I.base, I.K.set (by omega) (by omega) h4, I.step.set h1, I.apart, hol⟩
/-- One item more. -/
theorem AKI.item (I : AKI w B o ob kind l cv0 kv cv ck n xs css wr) {w3 : World} {gg cap : Nat} {ob' : Obj} {ys : List Value} (hown : w3.ownsRow w.heap.size 25 5 (.slice (some ⟨gg, 0, none⟩) (n + 1) cap) (n + 1) ys) (hgrow : (wr.alloc ob').grownBy w3 cv.ownBlock) (hat : cv.ownBlock = some gg ∨ gg = wr.heap.size + 1) :
    AKI w B o ob kind l cv0 kv (.slice (some ⟨gg, 0, none⟩) (n + 1) cap) ck (n + 1) ys css (w3.setCell ⟨ob, 4, none⟩ (.slice (some ⟨gg, 0, none⟩) (n + 1) cap)) := by
  have hol := I.olt
  have hB := I.K.base
  have hb := I.base
  have hlt := blk_lt I.out
  have hsz : (wr.alloc ob').heap.size = wr.heap.size + 1 := by simp
  have hz3 := hgrow.size
  have hz := I.step.size
  have hrl := I.row.lt
  have old : ∀ k, k < wr.heap.size → cv.ownBlock ≠ some k → w3.heap[k]? = wr.heap[k]? := fun k h1 h2 => by
    rw [hgrow.block k (by omega) (fun e => h2 e.symm)]
    exact Below.heap_alloc _ _ _ h1
  have hfF : ∀ k, k ≠ ob → (w3.setCell ⟨ob, 4, none⟩ (.slice (some ⟨gg, 0, none⟩) (n + 1) cap)).heap[k]? = w3.heap[k]? := fun k hk => Below.heap_setCell _ _ _ _ hk
  have ggo : gg ≠ ob := by
    rcases hat with h | h
    · exact fun e => I.iout (by rw [h, e])
    · omega
  have low : ∀ k, k < w.heap.size → cv.ownBlock ≠ some k := fun k hk e => by have := (hrl k e).1; omega
  have kk : ∀ k, ck.ownBlock = some k → (w3.setCell ⟨ob, 4, none⟩ (.slice (some ⟨gg, 0, none⟩) (n + 1) cap)).heap[k]? = wr.heap[k]? := fun k hk => (hfF k (I.apart k hk).2).trans (old k (I.K.row.lt k hk).2 (I.apart k hk).1)
  have hst : KStep o cv0 ck w (w3.setCell ⟨ob, 4, none⟩ (.slice (some ⟨gg, 0, none⟩) (n + 1) cap)) := by
    refine KStep.set ?_ hb
    refine ⟨hgrow.os.trans I.step.os, hgrow.tape.trans I.step.tape, hgrow.output.trans I.step.output, by omega, fun k h1 h2 h3 => (old k (by omega) (low k h1)).trans (I.step.block k h1 h2 h3), I.step.own⟩
  refine ⟨?_, own_same hown (fun k h => hfF k (by simp only [Value.ownBlock, Option.some.injEq] at h; omega)), by simpa [Value.ownBlock] using ggo, hb, I.K.keep (fun k hk => (hfF k (by omega)).trans (old k (by omega) (low k (by omega)))) ((hfF o (by omega)).trans (old o (by omega) (low o hol))) kk, hst, fun k hk => ⟨?_, (I.apart k hk).2⟩, hol⟩
  · have h := (old ob hlt I.iout).trans I.out
    simp only [World.setCell, Array.getElem?_modify, if_true, h]
    rfl
  · simp only [Value.ownBlock, ne_eq, Option.some.injEq]
    rcases hat with h | h
    · exact fun e => (I.apart k hk).1 (by rw [h, e])
    · exact fun e => by have := (I.K.row.lt k hk).2; omega
end

def kidsTo (x : Dat) (i : Nat) : List Dat := (x.items.take i).filter fun y => y.kind = 5
theorem kidsTo_succ {x : Dat} {i : Nat} (h : i < x.items.length) : kidsTo x (i + 1) = kidsTo x i ++ (if x.items[i].kind = 5 then [x.items[i]] else []) := by
  unfold kidsTo
  rw [take_succ_get (List.getElem?_eq_getElem h), List.filter_append]
  congr 1
  by_cases hk : x.items[i].kind = 5
  · simp [hk]
  · simp [hk]
theorem kidsTo_len {x : Dat} {i : Nat} : (kidsTo x i).length ≤ i := by
  unfold kidsTo
  refine Nat.le_trans (List.length_filter_le _ _) ?_
  rw [List.length_take]
  omega
theorem kidsTo_all {x : Dat} : kidsTo x x.items.length = x.items.filter fun y => y.kind = 5 := by
  unfold kidsTo
  rw [List.take_of_length_le (Nat.le_refl _)]

set_option maxRecDepth 100000 in
set_option maxHeartbeats 8000000 in
theorem all_kids (B o : Nat) (l : List Dat) (cv0 : Value) (css0 : List (List Value)) (x : Dat) (b0 b1 : Nat) (w : World) (cs : List Value) (hK : KInv B o l cv0 css0 w) (hl : l.length + 60 ≤ 100000) (hv : VA (onS w fun k => k < B) x cs) (hb0 : w.heap[b0]? = some (.cells cs.toArray 25 (0, 0)))
    (hb1 : w.heap[b1]? = some (.cells #[.func (.func 34) #[] #[.pointer (some ⟨o, 0, none⟩)]] 28 (0, 0))) (hne0 : b0 ≠ o ∧ cv0.ownBlock ≠ some b0) (hne1 : b1 ≠ o ∧ cv0.ownBlock ≠ some b1) (h60 : x.items.length ≤ 60) (hk60 : x.keys.length ≤ 60) :
    Calls Tryz.prog 25 #[.pointer (some ⟨b0, 0, none⟩), .pointer (some ⟨b1, 0, none⟩)] w (GivesKid B o (l ++ x.items.filter fun y => y.kind = 5) cv0 none w) := by
  have HKI := Lib.hid hK
  have HN0 := Lib.hid hne0
  have HN1 := Lib.hid hne1
  obtain ⟨S, hS⟩ : ∃ S : Nat → Prop, S = fun k => k < B := ⟨_, rfl⟩
  rw [← hS] at hv
  have HSE := Lib.hid hS
  clear hK hne0 hne1 hS
  obtain ⟨ka, ia, kc, ic, rfl, ht, hk, hkc, hkm, hic, him, hit⟩ := hv.inv
  have HIT := Lib.hid hit
  have HK := Lib.hid hk
  have HB0 := Lib.hid hb0
  have HB1 := Lib.hid hb1
  clear hit hk hv hb0 hb1
  obtain ⟨i0, hi0, hz0, hzz1, hzz2⟩ := info_parts info_val
  obtain ⟨is, his0, his1, his2, his3⟩ := info_parts info_str
  go_enter Tryz.func25, Tryz.ntmps25
  go_upto_region 1 with fail
  go_cut [3] from 6 to 12 (fun t3 wc => ∃ (ob : Nat) (kv : Value), t3 = .pointer (some ⟨ob, 0, none⟩) ∧ Hid (ZInv (w.alloc zero5v) S ob x.kind x.keys [] kv (.slice none 0 0) [] wc))
  case first =>
    have HX := Lib.hid (fun W (hb : Below w.heap.size w W) (j : Nat) (u : Value) (hu : #[(Value.int .i64 x.kind), .int .i64 x.num, .string x.text, .slice ka x.keys.length kc, .slice ia x.items.length ic][j]? = some u) => show W.cell? ⟨b0, j, none⟩ = some u from (blk_cell (blk_up HB0.out hb) j).trans hu)
    have HSS : Hid (∀ W, Below w.heap.size w W →
      W.cell? ⟨b0, 0, none⟩ = some (.int .i64 x.kind) ∧ W.cell? ⟨b0, 3, none⟩ = some (.slice ka x.keys.length kc)
      ) := Lib.hid (fun W hb => ⟨HX.out W hb 0 _ rfl, HX.out W hb 3 _ rfl⟩)
    refine AnyT.begin (L := 8) (n := 9) (S := fun w' =>
      w'.cell? ⟨b0, 0, none⟩ = some (.int .i64 x.kind) ∧ w'.cell? ⟨b0, 3, none⟩ = some (.slice ka x.keys.length kc)
      ) (by kernel_rfl) rfl ?_
    have HW1 : Hid (Below (w.alloc zero5v).heap.size (w.alloc zero5v) (w.alloc zero5v).drew) := Lib.hid (up_drew (Below.refl _ _))
    have HW : Hid (Below w.heap.size w (w.alloc zero5v).drew) := Lib.hid (up_drew (up_alloc (Below.refl _ _) _))
    have HZ : Hid ((w.alloc zero5v).drew.heap.size = (w.alloc zero5v).heap.size) := Lib.hid rfl
    have HZ0 : Hid ((w.alloc zero5v).heap.size = w.heap.size + 1) := Lib.hid (by simp)
    change AnyT _ _ _ _ _ _ _ _ _ (w.alloc zero5v).drew
    generalize (w.alloc zero5v).drew = w0 at HW1 HW HZ ⊢
    have S0 := HSS.out _ HW.out
    refine AnyT.takeY (i := 0) (d := some 6) (v := ?_) rfl rfl (by kernel_rfl) (by kernel_rfl) (by kernel_rfl) (fun _ _ _ h => h) (by rfl) ?_ ?_
    rotate_left
    · intro W
      go_simp
      with_reducible rfl
    try simp only [Act.put, List.setIfInBounds_toArray, List.set_cons_zero, List.set_cons_succ]
    refine AnyT.takeS (i := 1) (d := some 7) (v := ?_) rfl rfl (by kernel_rfl) (by kernel_rfl) (by kernel_rfl) (by kernel_rfl) (fun _ _ _ h => h) (by rfl) (by assumption) ?_ ?_
    rotate_left
    · intro W hSw
      try dsimp only at hSw
      go_simp
      with_reducible rfl
    try simp only [Act.put, List.setIfInBounds_toArray, List.set_cons_zero, List.set_cons_succ]
    refine AnyT.takeY (i := 3) (d := some 9) (v := ?_) rfl rfl (by kernel_rfl) (by kernel_rfl) (by kernel_rfl) (fun _ _ _ h => h) (by rfl) ?_ ?_
    rotate_left
    · intro W
      go_simp
      with_reducible rfl
    try simp only [Act.put, List.setIfInBounds_toArray, List.set_cons_zero, List.set_cons_succ]
    refine AnyT.takeS (i := 4) (d := some 10) (v := ?_) rfl rfl (by kernel_rfl) (by kernel_rfl) (by kernel_rfl) (by kernel_rfl) (fun _ _ _ h => h) (by rfl) (by assumption) ?_ ?_
    rotate_left
    · intro W hSw
      try dsimp only at hSw
      go_simp
      with_reducible rfl
    try simp only [Act.put, List.setIfInBounds_toArray, List.set_cons_zero, List.set_cons_succ]
    clear S0
    have HKW : Hid (∀ W, Below w.heap.size w W → StrsAt W ka x.keys) := Lib.hid (fun W hb => HK.out.mono (fun a u h => cell_up hb _ _ (onS_whole a u h)))
    have hw0 : (w.alloc zero5v).heap.size ≤ w0.heap.size := by rw [HZ.out]; exact Nat.le_refl _
    have hn : w.heap.size + 1 = w0.heap.size := by rw [HZ.out, HZ0.out]
    have hn1 : (w.alloc zero5v).heap.size = w0.heap.size := HZ.out.symm
    refine AnyT.two (i := 2) (j := 7) rfl rfl (by kernel_rfl) (fun K' hK => ?_) (fun K' hK => ?_)
    · go_simp
      refine hK.out _ _ (fun _ _ => HSS.out _ (up_trans HW.out (up_alloc (Below.refl _ _) _))) ?_
      clear hK K'
      try simp only [Act.put, List.setIfInBounds_toArray, List.set_cons_zero, List.set_cons_succ]
      refine AnyT.two (i := 5) (j := 7) rfl rfl (by kernel_rfl) (fun K' hK => ?_) (fun K' hK => ?_)
      · skip
        refine step_append_keys rfl _ _ _ rfl 9 is _ 16 Tryz.underlying22 his0 his1 his2 his3 rfl (w.alloc zero5v).heap.size (w0.heap.size) 0 rfl (World.ownsRow_made w0 #[] 0 (by omega) (by unfold maxLen; omega) rfl) ka kc x.keys rfl (HKW.out _ (up_trans HW.out (up_alloc (Below.refl _ _) _))) hkc (by omega) (by unfold maxLen; omega) (by simp; omega) ?_
        intro kv w3 hown hgrow hat
        obtain ⟨kA, kM, kC, rfl⟩ := own_slice hown
        have HOWN := Lib.hid hown
        have HGROW := Lib.hid hgrow
        have HAT := Lib.hid hat
        have HB3 := Lib.hid (Below.grown (up_trans HW.out (up_alloc (Below.refl _ _) _)) hgrow (by simp; omega) (fun k hk => by simp at hk; omega))
        have HB31 := Lib.hid (Below.grown (up_trans HW1.out (up_alloc (Below.refl _ _) _)) hgrow (by simp; omega) (fun k hk => by simp at hk; omega))
        clear hown hgrow hat
        refine hK.out _ _ (fun _ _ => HSS.out _ HB3.out) ?_
        clear hK K'
        try simp only [Act.put, List.setIfInBounds_toArray, List.set_cons_zero, List.set_cons_succ]
        refine AnyT.takeY (i := 6) (d := some 12) (v := ?_) rfl rfl (by kernel_rfl) (by kernel_rfl) (by kernel_rfl) (fun _ _ _ h => h) (by rfl) ?_ ?_
        rotate_left
        · intro W
          go_simp
          with_reducible rfl
        try simp only [Act.put, List.setIfInBounds_toArray, List.set_cons_zero, List.set_cons_succ]
        refine AnyT.one (i := 7) rfl (by kernel_rfl) (fun K' hK => ?_)
        go_simp
        refine hK.out _ _ (fun _ _ => HSS.out _ (up_alloc HB3.out _)) ?_
        clear hK K'
        try simp only [Act.put, List.setIfInBounds_toArray, List.set_cons_zero, List.set_cons_succ]
        refine AnyT.one (i := 8) rfl (by kernel_rfl) (fun K' hK => ?_)
        go_simp
        refine hK.out _ _ (fun _ h => absurd rfl h) ?_
        clear hK K'
        refine AnyT.end (by kernel_rfl) ?_ _
        try simp only [Act.put, List.setIfInBounds_toArray, List.set_cons_zero, List.set_cons_succ]
        go_wp2
        go_meet
        case rel =>
          exact ⟨w3.heap.size, _, rfl, Lib.hid (ZInv.begin (blk_new w3 _) (HOWN.out.alloc _) (fun e => by have := (HOWN.out.lt _ e).2; omega) HB31.out.size (up_alloc HB31.out _))⟩
      · go_simp
        refine hK.out _ _ (fun _ _ => HSS.out _ (up_trans HW.out (up_alloc (up_alloc (Below.refl _ _) _) _))) ?_
        clear hK K'
        try simp only [Act.put, List.setIfInBounds_toArray, List.set_cons_zero, List.set_cons_succ]
        refine AnyT.one (i := 5) rfl (by kernel_rfl) (fun K' hK => ?_)
        refine step_append_keys rfl _ _ _ rfl 9 is _ 16 Tryz.underlying22 his0 his1 his2 his3 rfl (w.alloc zero5v).heap.size (w0.heap.size) 0 rfl ((World.ownsRow_made w0 #[] 0 (by omega) (by unfold maxLen; omega) rfl).alloc _) ka kc x.keys rfl (HKW.out _ (up_trans HW.out (up_alloc (up_alloc (Below.refl _ _) _) _))) hkc (by omega) (by unfold maxLen; omega) (by simp; omega) ?_
        intro kv w3 hown hgrow hat
        obtain ⟨kA, kM, kC, rfl⟩ := own_slice hown
        have HOWN := Lib.hid hown
        have HGROW := Lib.hid hgrow
        have HAT := Lib.hid hat
        have HB3 := Lib.hid (Below.grown (up_trans HW.out (up_alloc (up_alloc (Below.refl _ _) _) _)) hgrow (by simp; omega) (fun k hk => by simp at hk; omega))
        have HB31 := Lib.hid (Below.grown (up_trans HW1.out (up_alloc (up_alloc (Below.refl _ _) _) _)) hgrow (by simp; omega) (fun k hk => by simp at hk; omega))
        clear hown hgrow hat
        refine hK.out _ _ (fun _ _ => HSS.out _ HB3.out) ?_
        clear hK K'
        try simp only [Act.put, List.setIfInBounds_toArray, List.set_cons_zero, List.set_cons_succ]
        refine AnyT.takeY (i := 6) (d := some 12) (v := ?_) rfl rfl (by kernel_rfl) (by kernel_rfl) (by kernel_rfl) (fun _ _ _ h => h) (by rfl) ?_ ?_
        rotate_left
        · intro W
          go_simp
          with_reducible rfl
        try simp only [Act.put, List.setIfInBounds_toArray, List.set_cons_zero, List.set_cons_succ]
        have H1 := Lib.hid (show (w3).heap[w0.heap.size + 1]? = some zero5v from (HGROW.out.block _ (by simp) (by simp)).trans (by have := blk_new (w0.alloc (.cells #[] 9)) zero5v; simpa [zero5v] using this))
        have r0 : (w3).cell? ⟨w0.heap.size + 1, 0, none⟩ = some (.int .i64 0) := (blk_cell H1.out 0).trans rfl
        have r1 : (w3).cell? ⟨w0.heap.size + 1, 1, none⟩ = some (.int .i64 0) := (blk_cell H1.out 1).trans rfl
        have r2 : (w3).cell? ⟨w0.heap.size + 1, 2, none⟩ = some (.string ⟨#[]⟩) := (blk_cell H1.out 2).trans rfl
        have r3 : (w3).cell? ⟨w0.heap.size + 1, 3, none⟩ = some (.slice none 0 0) := (blk_cell H1.out 3).trans rfl
        have r4 : (w3).cell? ⟨w0.heap.size + 1, 4, none⟩ = some (.slice none 0 0) := (blk_cell H1.out 4).trans rfl
        have p0 : (w3).frozen? ⟨w0.heap.size + 1, 0, none⟩ = false := blk_frozen H1.out 0
        have p1 : (w3).frozen? ⟨w0.heap.size + 1, 1, none⟩ = false := blk_frozen H1.out 1
        have p2 : (w3).frozen? ⟨w0.heap.size + 1, 2, none⟩ = false := blk_frozen H1.out 2
        have p3 : (w3).frozen? ⟨w0.heap.size + 1, 3, none⟩ = false := blk_frozen H1.out 3
        have p4 : (w3).frozen? ⟨w0.heap.size + 1, 4, none⟩ = false := blk_frozen H1.out 4
        refine AnyT.one (i := 8) rfl (by kernel_rfl) (fun K' hK => ?_)
        go_simp
        refine hK.out _ _ (fun _ h => absurd rfl h) ?_
        clear hK K'
        refine AnyT.end (by kernel_rfl) ?_ _
        try simp only [Act.put, List.setIfInBounds_toArray, List.set_cons_zero, List.set_cons_succ]
        go_wp2
        go_meet
        case rel =>
          exact ⟨w0.heap.size + 1, _, rfl, Lib.hid (z_start H1.out (HOWN.out) (fun e => by rcases HAT.out with h | h <;> (rw [h] at e; simp at e; try omega)) (by omega) (HB31.out))⟩
    · go_simp
      refine hK.out _ _ (fun _ _ => HSS.out _ (up_trans HW.out (up_alloc (Below.refl _ _) _))) ?_
      clear hK K'
      try simp only [Act.put, List.setIfInBounds_toArray, List.set_cons_zero, List.set_cons_succ]
      refine AnyT.one (i := 2) rfl (by kernel_rfl) (fun K' hK => ?_)
      go_simp
      refine hK.out _ _ (fun _ _ => HSS.out _ (up_trans HW.out (up_alloc (up_alloc (Below.refl _ _) _) _))) ?_
      clear hK K'
      try simp only [Act.put, List.setIfInBounds_toArray, List.set_cons_zero, List.set_cons_succ]
      refine AnyT.one (i := 5) rfl (by kernel_rfl) (fun K' hK => ?_)
      refine step_append_keys rfl _ _ _ rfl 9 is _ 16 Tryz.underlying22 his0 his1 his2 his3 rfl (w.alloc zero5v).heap.size (w0.heap.size + 1) 0 rfl (by have := World.ownsRow_made (base := (w.alloc zero5v).heap.size) (e := 9) (size := 1) (w0.alloc zero5v) #[] 0 (by simp; omega) (by unfold maxLen; omega) rfl; simpa [zero5v] using this) ka kc x.keys rfl (HKW.out _ (up_trans HW.out (up_alloc (up_alloc (Below.refl _ _) _) _))) hkc (by omega) (by unfold maxLen; omega) (by simp; omega) ?_
      intro kv w3 hown hgrow hat
      obtain ⟨kA, kM, kC, rfl⟩ := own_slice hown
      have HOWN := Lib.hid hown
      have HGROW := Lib.hid hgrow
      have HAT := Lib.hid hat
      have HB3 := Lib.hid (Below.grown (up_trans HW.out (up_alloc (up_alloc (Below.refl _ _) _) _)) hgrow (by simp; omega) (fun k hk => by simp at hk; omega))
      have HB31 := Lib.hid (Below.grown (up_trans HW1.out (up_alloc (up_alloc (Below.refl _ _) _) _)) hgrow (by simp; omega) (fun k hk => by simp at hk; omega))
      clear hown hgrow hat
      refine hK.out _ _ (fun _ _ => HSS.out _ HB3.out) ?_
      clear hK K'
      try simp only [Act.put, List.setIfInBounds_toArray, List.set_cons_zero, List.set_cons_succ]
      refine AnyT.takeY (i := 6) (d := some 12) (v := ?_) rfl rfl (by kernel_rfl) (by kernel_rfl) (by kernel_rfl) (fun _ _ _ h => h) (by rfl) ?_ ?_
      rotate_left
      · intro W
        go_simp
        with_reducible rfl
      try simp only [Act.put, List.setIfInBounds_toArray, List.set_cons_zero, List.set_cons_succ]
      have H1 := Lib.hid (show (w3).heap[w0.heap.size]? = some zero5v from (HGROW.out.block _ (by simp; omega) (by simp)).trans (blk_up (blk_new w0 zero5v) (up_alloc (Below.refl _ _) _)))
      have r0 : (w3).cell? ⟨w0.heap.size, 0, none⟩ = some (.int .i64 0) := (blk_cell H1.out 0).trans rfl
      have r1 : (w3).cell? ⟨w0.heap.size, 1, none⟩ = some (.int .i64 0) := (blk_cell H1.out 1).trans rfl
      have r2 : (w3).cell? ⟨w0.heap.size, 2, none⟩ = some (.string ⟨#[]⟩) := (blk_cell H1.out 2).trans rfl
      have r3 : (w3).cell? ⟨w0.heap.size, 3, none⟩ = some (.slice none 0 0) := (blk_cell H1.out 3).trans rfl
      have r4 : (w3).cell? ⟨w0.heap.size, 4, none⟩ = some (.slice none 0 0) := (blk_cell H1.out 4).trans rfl
      have p0 : (w3).frozen? ⟨w0.heap.size, 0, none⟩ = false := blk_frozen H1.out 0
      have p1 : (w3).frozen? ⟨w0.heap.size, 1, none⟩ = false := blk_frozen H1.out 1
      have p2 : (w3).frozen? ⟨w0.heap.size, 2, none⟩ = false := blk_frozen H1.out 2
      have p3 : (w3).frozen? ⟨w0.heap.size, 3, none⟩ = false := blk_frozen H1.out 3
      have p4 : (w3).frozen? ⟨w0.heap.size, 4, none⟩ = false := blk_frozen H1.out 4
      refine AnyT.one (i := 8) rfl (by kernel_rfl) (fun K' hK => ?_)
      go_simp
      refine hK.out _ _ (fun _ h => absurd rfl h) ?_
      clear hK K'
      refine AnyT.end (by kernel_rfl) ?_ _
      try simp only [Act.put, List.setIfInBounds_toArray, List.set_cons_zero, List.set_cons_succ]
      go_wp2
      go_meet
      case rel =>
        exact ⟨w0.heap.size, _, rfl, Lib.hid (z_start H1.out (HOWN.out) (fun e => by rcases HAT.out with h | h <;> (rw [h] at e; simp at e; try omega)) (by omega) (HB31.out))⟩
  case rest =>
    obtain ⟨ob, kv, rfl, HZ⟩ := hcut
    have hol : o < w.heap.size := blk_lt HKI.out.box
    have hKB := HKI.out.base
    have HUP : Hid (∀ W, Below (w.alloc zero5v).heap.size (w.alloc zero5v) W → Below w.heap.size w W) := Lib.hid (fun W h => up_trans (up_alloc (Below.refl _ _) _) h)
    have q4 : wc.cell? ⟨b0, 4, none⟩ = some (.slice ia x.items.length ic) := (blk_cell (blk_up HB0.out (HUP.out _ HZ.out.below)) 4).trans rfl
    have HA0 : Hid (AKI (w.alloc zero5v) B o ob x.kind (l ++ kidsTo x 0) cv0 kv (.slice none 0 0) cv0 0 [] css0 wc) := Lib.hid (by
      have e : l ++ kidsTo x 0 = l := by simp [kidsTo]
      rw [e]
      refine ⟨HZ.out.out, World.ownsRow_nil _ _ _ _, by simp [Value.ownBlock], HZ.out.base, HKI.out.up (HUP.out _ HZ.out.below), (KStep.refl _ _ _).up HZ.out.below, fun k hk => ⟨by simp [Value.ownBlock], ?_⟩, by simp; omega⟩
      have h1 := (HKI.out.row.lt k hk).2
      have h2 := HZ.out.base
      simp at h2
      omega)
    obtain ⟨kA, kM, kC, hkv⟩ := own_slice HZ.out.krow
    have HSTEP : Hid (∀ (ck : Value) (W : World), KStep o cv0 ck (w.alloc zero5v) W → ∀ k, k < w.heap.size → k ≠ o → cv0.ownBlock ≠ some k → W.heap[k]? = w.heap[k]?) := Lib.hid (fun ck W h k h1 h2 h3 => (h.block k (by simp; omega) h2 h3).trans (Below.heap_alloc _ _ _ h1))
    have hlow : ∀ k, k < B → cv0.ownBlock ≠ some k := fun k hk e => by have := (HKI.out.row.lt k e).1; omega
    have HLOW := Lib.hid hlow
    clear hlow HZ
    go_wp2
    clear q4
    go_loopg [16] x.items.length (fun gk v16 wr => ∃ (i : Nat) (cv ck : Value) (xs : List Value) (css : List (List Value)), v16 = .int .i64 i ∧ i + gk = x.items.length ∧ Hid (AKI (w.alloc zero5v) B o ob x.kind (l ++ kidsTo x i) cv0 kv cv ck i xs css wr))
    case atStart => exact ⟨0, .slice none 0 0, cv0, [], css0, rfl, by omega, HA0⟩
    case round =>
      clear HA0
      obtain ⟨i, cv, ck, xs, css, rfl, hi, HZ⟩ := hrel
      by_cases hlt : i < x.items.length
      · obtain ⟨b, o', ka', ia', kc', ic', hb, h0, h1, h2, h3, h4, hvi⟩ := HIT.out i hlt
        cases hb
        rw [HSE.out] at h0 h1 h2 h3 h4 hvi
        have HFB := Lib.hid (fun k (hk : k < B) => HSTEP.out ck wr HZ.out.step k (by omega) (by omega) (HLOW.out k hk))
        have mv : ∀ a u, (onS w fun k => k < B).cell? a = some u → wr.cell? a = some u := fun a u h => by
          obtain ⟨q1, q2⟩ := onS_out h
          exact (World.cell?_of_block (a := a) (HFB.out _ q1)).trans q2
        replace h0 := mv _ _ h0
        replace h1 := mv _ _ h1
        replace h2 := mv _ _ h2
        replace h3 := mv _ _ h3
        replace h4 := mv _ _ h4
        obtain ⟨y, hy⟩ : ∃ y, x.items[i] = y := ⟨_, rfl⟩
        rw [hy] at h0 h1 h2 h3 h4 hvi
        have HY := Lib.hid hy
        have HVI := Lib.hid (hvi.upS (w1 := wr) (T := fun k => k < B) HFB.out (fun _ h => h))
        clear hy hvi mv
        have o3 := blk_lt HZ.out.out
        have hb1w := (HSTEP.out ck wr HZ.out.step b1 (blk_lt HB1.out) HN1.out.1 HN1.out.2).trans HB1.out
        have h1w : ∀ o1, (wr.alloc o1).cell? ⟨b1, 0, none⟩ = some (.func (.func 34) #[] #[.pointer (some ⟨o, 0, none⟩)]) := fun o1 => (blk_cell (blk_up hb1w (up_alloc (Below.refl _ _) o1)) 0).trans rfl
        have hzw := HZ.out.step.size
        have HLEN : Hid ((l ++ kidsTo x i).length ≤ 100000) := Lib.hid (by
          have := kidsTo_len (x := x) (i := i)
          rw [List.length_append]
          omega)
        clear hb1w
        go_upto_if 22 with fail
        go_cut [] from 20 to 25 (fun wc => ∃ (ck2 : Value) (css2 : List (List Value)),
          Hid (wc.heap[wr.heap.size]? = some (.cells #[.int .i64 y.kind, .int .i64 y.num, .string y.text, .slice ka' y.keys.length kc', .slice ia' y.items.length ic'] 25 (0, 0))) ∧ Hid (wr.heap.size < wc.heap.size) ∧
          Hid (AKI (w.alloc zero5v) B o ob x.kind (l ++ kidsTo x (i + 1)) cv0 kv cv ck2 i xs css2 wc))
        case first =>
          have hks := kidsTo_succ hlt
          rw [HY.out] at hks
          have HKSU := Lib.hid hks
          clear hks
          by_cases k5 : y.kind = 5
          · have K5 := Lib.hid k5
            have e5 : (y.kind == 5) = true := beq_iff_eq.mpr k5
            clear k5
            go_wp2_with fail
            go_at_call 34
            have IA := Lib.hid (HZ.out.up (up_alloc (Below.refl _ _) (.cells #[.int .i64 y.kind, .int .i64 y.num, .string y.text, .slice ka' y.keys.length kc', .slice ia' y.items.length ic'] 25 (0, 0))))
            refine (kids1_any B o (l ++ kidsTo x i) ck css y _ _ IA.out.K HLEN.out (HVI.out.upS (fun k hk => Below.heap_alloc _ _ _ (by have := hzw; simp at this; omega)) (fun _ h => h))).mono ?_
            rintro e w2 ⟨cs2, ck2, css2, -, rfl, hr2, hk2, hs2⟩
            obtain rfl := hr2 _ rfl
            have I2 := Lib.hid (IA.out.call hk2 hs2)
            have hge : ck.ownBlock ≠ some wr.heap.size := fun e => by have := (HZ.out.K.row.lt _ e).2; omega
            have OW := Lib.hid ((hs2.block wr.heap.size (by simp) (by simp at hzw; omega) hge).trans (blk_new wr _))
            have HCK : Hid (ck2.ownBlock ≠ some wr.heap.size) := Lib.hid (fun e => by
              rcases hs2.own _ e with q | q
              · exact hge q
              · simp at q; omega)
            have HSZ : Hid (wr.heap.size < w2.heap.size) := Lib.hid (by have := hs2.size; simp at this; omega)
            clear hk2 hs2 hr2 hge
            have p0 : w2.frozen? ⟨wr.heap.size, 0, none⟩ = false := blk_frozen OW.out 0
            have p1 : w2.frozen? ⟨wr.heap.size, 1, none⟩ = false := blk_frozen OW.out 1
            have p2 : w2.frozen? ⟨wr.heap.size, 2, none⟩ = false := blk_frozen OW.out 2
            have p3 : w2.frozen? ⟨wr.heap.size, 3, none⟩ = false := blk_frozen OW.out 3
            have p4 : w2.frozen? ⟨wr.heap.size, 4, none⟩ = false := blk_frozen OW.out 4
            have r0 := (blk_cell OW.out 0).trans rfl
            have r1 := (blk_cell OW.out 1).trans rfl
            have r2 := (blk_cell OW.out 2).trans rfl
            have r3 := (blk_cell OW.out 3).trans rfl
            have r4 := (blk_cell OW.out 4).trans rfl
            go_wp2
            go_meet
            case rel =>
              have hc1 : cv.ownBlock ≠ some wr.heap.size := fun e => by have := (HZ.out.row.lt _ e).2; omega
              refine ⟨ck2, css2, Lib.hid (set5 OW.out _ _ _ _ _), Lib.hid (by rw [set5_size]; exact HSZ.out), Lib.hid ?_⟩
              rw [HKSU.out, if_pos K5.out, ← List.append_assoc]
              have hne : wr.heap.size ≠ ob := by omega
              exact ((((I2.out.set hzw hne hc1 HCK.out _ _).set hzw hne hc1 HCK.out _ _).set hzw hne hc1 HCK.out _ _).set hzw hne hc1 HCK.out _ _).set hzw hne hc1 HCK.out _ _
          · have e5 : (y.kind == 5) = false := beq_eq_false_iff_ne.mpr k5
            have K5 := Lib.hid k5
            clear k5
            go_wp2
            go_meet
            case rel =>
              refine ⟨ck, css, Lib.hid (blk_new wr _), Lib.hid (by simp), Lib.hid ?_⟩
              rw [HKSU.out, if_neg K5.out, List.append_nil]
              exact HZ.out.up (up_alloc (Below.refl _ _) _)
        case rest =>
          obtain ⟨ck2, css2, HOB, HSZ, HI1⟩ := hcut
          have HIR := Lib.hid HI1.out.row
          clear h0 h1 h2 h3 h4 h1w o3
          have n4 : wc.cell? ⟨ob, 4, none⟩ = some cv := (blk_cell HI1.out.out 4).trans rfl
          have r0 : wc.cell? ⟨wr.heap.size, 0, none⟩ = some (.int .i64 y.kind) := (blk_cell HOB.out 0).trans rfl
          have r1 : wc.cell? ⟨wr.heap.size, 1, none⟩ = some (.int .i64 y.num) := (blk_cell HOB.out 1).trans rfl
          have r2 : wc.cell? ⟨wr.heap.size, 2, none⟩ = some (.string y.text) := (blk_cell HOB.out 2).trans rfl
          have r3 : wc.cell? ⟨wr.heap.size, 3, none⟩ = some (.slice ka' y.keys.length kc') := (blk_cell HOB.out 3).trans rfl
          have r4 : wc.cell? ⟨wr.heap.size, 4, none⟩ = some (.slice ia' y.items.length ic') := (blk_cell HOB.out 4).trans rfl
          have hz1 := HI1.out.step.size
          have o3 := blk_lt HI1.out.out
          go_wp2_with (first
            | (at_builtin
               refine wpList_append_lies _ rfl (.tmp 27) (.tmp 29) 23 rfl (w.alloc zero5v).heap.size 25 i0 _ 5 80 Tryz.underlying23 hi0 hz0 hzz1 hzz2 rfl (by omega) _ i xs rfl ((HIR.out).alloc _)
                 ⟨wc.heap.size, 0, none⟩ 1 1 [.int .i64 y.kind, .int .i64 y.num, .string y.text, .slice ka' y.keys.length kc', .slice ia' y.items.length ic'] rfl rfl
                 (World.news_of_block (cs := #[.int .i64 y.kind, .int .i64 y.num, .string y.text, .slice ka' y.keys.length kc', .slice ia' y.items.length ic']) (t := 25) (fr := (0, 0)) (heap_alloc_new wc _)) (by simp [Value.oneCell']) (by omega) (by unfold maxLen; omega) (by omega) (by simp at hz1 ⊢; omega) (wc.heap.size + 1) (by simp) ?_))
          intro gg cap w3 hown hgrow hat hlt3
          have HG := Lib.hid (HI1.out.item (by simpa using hown) hgrow hat)
          have N3 := Lib.hid ((hgrow.block ob (by simp; omega) (fun e => HI1.out.iout e.symm)).trans (blk_up HI1.out.out (up_alloc (Below.refl _ _) _)))
          clear hown hgrow hat hlt3 n4 r0 r1 r2 r3 r4
          have s4 : w3.cell? ⟨ob, 4, none⟩ = some cv := (blk_cell N3.out 4).trans rfl
          have s4' : w3.frozen? ⟨ob, 4, none⟩ = false := blk_frozen N3.out 4
          go_wp2
          go_roundg (x.items.length - (i + 1))
          case measure => omega
          case rel => exact ⟨i + 1, .slice (some ⟨gg, 0, none⟩) (i + 1) cap, ck2, _, css2, by go_num, by omega, HG⟩
      · obtain rfl : i = x.items.length := by omega
        subst hkv
        obtain ⟨cA, cM, cC, rfl⟩ := own_slice HZ.out.row
        have hrb : (w.alloc zero5v).heap.size = w.heap.size + 1 := by simp
        have hck : ck.ownBlock ≠ some w.heap.size := fun e => by
          rcases HZ.out.step.own _ e with q | q
          · have := (HKI.out.row.lt _ q).2; omega
          · omega
        have HRB : Hid (wr.heap[w.heap.size]? = some zero5v) := Lib.hid ((HZ.out.step.block w.heap.size (by omega) (by omega) (fun e => by have := (HKI.out.row.lt _ e).2; omega)).trans (blk_new w _))
        have HO := Lib.hid HZ.out.out
        have hne : w.heap.size < ob := by have := HZ.out.base; omega
        have o3 := blk_lt HZ.out.out
        have s0 : wr.cell? ⟨ob, 0, none⟩ = some (.int .i64 x.kind) := (blk_cell HO.out 0).trans rfl
        have s1 : wr.cell? ⟨ob, 1, none⟩ = some (.int .i64 0) := (blk_cell HO.out 1).trans rfl
        have s2 : wr.cell? ⟨ob, 2, none⟩ = some (.string ⟨#[]⟩) := (blk_cell HO.out 2).trans rfl
        have s3 : wr.cell? ⟨ob, 3, none⟩ = some (.slice kA kM kC) := (blk_cell HO.out 3).trans rfl
        have s4 : wr.cell? ⟨ob, 4, none⟩ = some (.slice cA cM cC) := (blk_cell HO.out 4).trans rfl
        have HKF := Lib.hid HZ.out.K
        have HSF := Lib.hid HZ.out.step
        have HCK := Lib.hid hck
        have p0 : wr.frozen? ⟨w.heap.size, 0, none⟩ = false := blk_frozen HRB.out 0
        have p1 : wr.frozen? ⟨w.heap.size, 1, none⟩ = false := blk_frozen HRB.out 1
        have p2 : wr.frozen? ⟨w.heap.size, 2, none⟩ = false := blk_frozen HRB.out 2
        have p3 : wr.frozen? ⟨w.heap.size, 3, none⟩ = false := blk_frozen HRB.out 3
        have p4 : wr.frozen? ⟨w.heap.size, 4, none⟩ = false := blk_frozen HRB.out 4
        have r0 := (blk_cell HRB.out 0).trans rfl
        have r1 := (blk_cell HRB.out 1).trans rfl
        have r2 := (blk_cell HRB.out 2).trans rfl
        have r3 := (blk_cell HRB.out 3).trans rfl
        have r4 := (blk_cell HRB.out 4).trans rfl
        clear HZ hck hrb
        go_wp2
        refine ret_val rfl rfl rfl (set5 HRB.out _ _ _ _ _) ?_
        have hg : o ≠ w.heap.size := by omega
        refine ⟨[.int .i64 x.kind, .int .i64 0, .string ⟨#[]⟩, .slice kA kM kC, .slice cA cM cC], ck, css, ⟨_, _, _, _, _, _, _, _, _, rfl⟩, rfl, (fun r h => absurd h (by simp)), ?_, ?_⟩
        · rw [← kidsTo_all]
          exact HKF.out.keep (fun k hk => set5_far (by omega) _ _ _ _ _) (set5_far hg _ _ _ _ _) (fun k hk => set5_far (fun e => HCK.out (by rw [← e]; exact hk)) _ _ _ _ _)
        · have h0 : KStep o cv0 ck w wr := ⟨HSF.out.os, HSF.out.tape, HSF.out.output, by have := HSF.out.size; simp at this; omega, fun k h1 h2 h3 => HSTEP.out ck wr HSF.out k h1 h2 h3, fun k hk => (HSF.out.own k hk).imp id (fun h => by simp at h; omega)⟩
          exact ((((h0.set (Nat.le_refl _)).set (Nat.le_refl _)).set (Nat.le_refl _)).set (Nat.le_refl _)).set (Nat.le_refl _)
end Go.Proofs.YthdnkcofcbinhaaGreatDoor
