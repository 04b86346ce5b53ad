/- node: maps. -/
import Derived.Test.YthdnkcofcbinhaaGreatDoorGd1J
import Derived.Test.YthdnkcofcbinhaaGreatDoorGnJ
set_option linter.unusedVariables false
set_option linter.unusedSimpArgs false
namespace Go.Proofs.YthdnkcofcbinhaaGreatDoor
open Go.RowKit

set_option maxRecDepth 100000 in
set_option maxHeartbeats 40000000 in
theorem node_map (D : Nat) (v : Dat) (w : World) (cs : List Value) (hv : VA w v cs) (p0 : v.kind = 5) (pkl : v.keys.length = v.items.length) (p4 : v.items.length ≤ 60)
    (ih : ∀ (i : Nat) (h : i < v.items.length) (W : World) (cs : List Value), Below w.heap.size w W → VA W v.items[i] cs → Calls Tryz.prog 27 #[.agg cs.toArray, .bool false] W (GivesNode D v.items[i] W)) :
    Calls Tryz.prog 27 #[.agg cs.toArray, .bool false] w (GivesNode (D + 1) v w) := by
  obtain ⟨ka, ia, kc, ic, rfl, ht, hk, hkc, hkm, hic, him, hit⟩ := hv.inv
  have IH := Lib.hid ih
  have HIT := Lib.hid hit
  have HKT := Lib.hid hk
  have HP0 := Lib.hid p0
  have HKL := Lib.hid pkl
  clear ih hit hk hv
  obtain ⟨i0, hi0, hz0, hz1, hz2⟩ := info_parts info_ptr
  rw [p0, pkl]
  rw [pkl] at hkc
  clear p0 pkl
  go_enter Tryz.func27, Tryz.ntmps27
  go_wp2
  go_loopg [69] v.items.length (fun gk v69 wr => ∃ (i : Nat) (cv : Value) (ps : List Nat), v69 = .int .i64 i ∧ i + gk = v.items.length ∧ Hid (Bld w 4 tMap (QMap D v) (2 * i) cv ps wr) ∧
    Hid (wr.heap[w.heap.size]? = some (.cells #[.int .i64 5, .int .i64 v.num, .string v.text, .slice ka v.items.length kc, .slice ia v.items.length ic] 25 (0, 0))))
  case atStart =>
    refine ⟨0, .slice none 0 0, [], rfl, by omega, Lib.hid ⟨?_, World.ownsRow_nil _ _ _ _, fun _ h => absurd h (Nat.not_lt_zero _), rfl, by simp, up_alloc (up_alloc (Below.refl _ _) _) _⟩, Lib.hid (blk_up (blk_new w _) (up_alloc (Below.refl _ _) _))⟩
    have := blk_new (w.alloc (.cells #[.int .i64 5, .int .i64 v.num, .string v.text, .slice ka v.items.length kc, .slice ia v.items.length ic] 25)) (nodeBlk 4 tMap ⟨#[]⟩ (.slice none 0 0))
    simpa [nodeBlk, tMap] using this
  case round =>
    obtain ⟨i, cv, ps, rfl, hi, HB, HX0⟩ := hrel
    by_cases hlt : i < v.items.length
    · obtain ⟨b, o, ka', ia', kc', ic', hb, h0, h1, h2, h3, h4, hvi⟩ := HIT.out i hlt
      have hki : i < v.keys.length := by have := HKL.out; omega
      obtain ⟨hsz, kb, ko, hkb, hkcell⟩ := HKT.out i hki
      cases hb
      cases hkb
      have h0w := h0
      have hkw := hkcell
      replace hvi := hvi.up HB.out.below
      replace h0 := cell_up HB.out.below _ _ h0
      replace h1 := cell_up HB.out.below _ _ h1
      replace h2 := cell_up HB.out.below _ _ h2
      replace h3 := cell_up HB.out.below _ _ h3
      replace h4 := cell_up HB.out.below _ _ h4
      replace hkcell := cell_up HB.out.below _ _ hkcell
      have IHi := Lib.hid (IH.out i hlt)
      obtain ⟨x, hx⟩ : ∃ x, v.items[i] = x := ⟨_, rfl⟩
      obtain ⟨s, hs⟩ : ∃ s, v.keys[i] = s := ⟨_, rfl⟩
      rw [hx] at h0 h1 h2 h3 h4 hvi IHi
      rw [hs] at hkcell
      have HX := Lib.hid hx
      have HS := Lib.hid hs
      clear hx hs hsz
      have HC := Lib.hid (fun W (hb : Below wr.heap.size wr W) => IHi.out W _ (up_trans HB.out.below hb) (hvi.up hb))
      clear hvi IHi
      have i1 : (i : Int) < (v.items.length : Int) := by omega
      have a3 : wr.cell? ⟨w.heap.size, 3, none⟩ = some (.slice (some ⟨kb, ko, none⟩) v.items.length kc) := (blk_cell HX0.out 3).trans rfl
      have a4 : wr.cell? ⟨w.heap.size, 4, none⟩ = some (.slice (some ⟨b, o, none⟩) v.items.length ic) := (blk_cell HX0.out 4).trans rfl
      have n6 : wr.cell? ⟨w.heap.size + 1, 6, none⟩ = some cv := (blk_cell HB.out.node 6).trans rfl
      have hs2 : w.heap.size + 2 ≤ wr.heap.size := HB.out.size
      have hwb := HB.out.below.size
      have L1 : b < w.heap.size + 1 := by
        have := World.block_lt_of_cell? w _ (h0w); simp at this; omega
      have L2 : kb < w.heap.size + 1 := by
        have := World.block_lt_of_cell? w _ (hkw); simp at this; omega
      have HSS : Hid (∀ W : World, Below (w.heap.size + 1) wr W →
        W.cell? ⟨w.heap.size, 3, none⟩ = some (.slice (some ⟨kb, ko, none⟩) v.items.length kc) ∧ W.cell? ⟨w.heap.size, 4, none⟩ = some (.slice (some ⟨b, o, none⟩) v.items.length ic) ∧ W.cell? ⟨kb, ko + i, none⟩ = some (.string s) ∧
          W.cell? ⟨b, o + i * 5, none⟩ = some (.int .i64 x.kind) ∧ W.cell? ⟨b, o + i * 5 + 1, none⟩ = some (.int .i64 x.num) ∧ W.cell? ⟨b, o + i * 5 + 2, none⟩ = some (.string x.text) ∧
          W.cell? ⟨b, o + i * 5 + 3, none⟩ = some (.slice ka' x.keys.length kc') ∧ W.cell? ⟨b, o + i * 5 + 4, none⟩ = some (.slice ia' x.items.length ic')
        ) := Lib.hid (fun W hb => ⟨(hb.cell (by simp)).trans a3, (hb.cell (by simp)).trans a4, (hb.cell L2).trans hkcell, (hb.cell L1).trans h0, (hb.cell L1).trans h1, (hb.cell L1).trans h2, (hb.cell L1).trans h3, (hb.cell L1).trans h4⟩)
      clear a3 a4 hkcell h0 h1 h2 h3 h4 h0w hkw L1 L2
      go_upto_region 26 with fail
      have HQ : ∀ (K : Exit → Act → World → Prop), K = K := fun _ => rfl
      have HN6 := Lib.hid n6
      have HSS2 : Hid (∀ W : World, Below (w.heap.size + 2) wr W →
        W.cell? ⟨w.heap.size, 3, none⟩ = some (.slice (some ⟨kb, ko, none⟩) v.items.length kc) ∧ W.cell? ⟨w.heap.size, 4, none⟩ = some (.slice (some ⟨b, o, none⟩) v.items.length ic) ∧ W.cell? ⟨kb, ko + i, none⟩ = some (.string s) ∧
          W.cell? ⟨b, o + i * 5, none⟩ = some (.int .i64 x.kind) ∧ W.cell? ⟨b, o + i * 5 + 1, none⟩ = some (.int .i64 x.num) ∧ W.cell? ⟨b, o + i * 5 + 2, none⟩ = some (.string x.text) ∧
          W.cell? ⟨b, o + i * 5 + 3, none⟩ = some (.slice ka' x.keys.length kc') ∧ W.cell? ⟨b, o + i * 5 + 4, none⟩ = some (.slice ia' x.items.length ic')
        ∧ W.cell? ⟨w.heap.size + 1, 6, none⟩ = some cv
        ) := Lib.hid (fun W hb => by
          obtain ⟨q1, q2, q3, q4, q5, q6, q7, q8⟩ := HSS.out W (hb.mono (by omega))
          exact ⟨q1, q2, q3, q4, q5, q6, q7, q8, (hb.cell (by simp)).trans HN6.out⟩)
      refine AnyT.begin (L := 22) (n := 23) (S := fun w' =>
        w'.cell? ⟨w.heap.size, 3, none⟩ = some (.slice (some ⟨kb, ko, none⟩) v.items.length kc) ∧ w'.cell? ⟨w.heap.size, 4, none⟩ = some (.slice (some ⟨b, o, none⟩) v.items.length ic) ∧ w'.cell? ⟨kb, ko + i, none⟩ = some (.string s) ∧
          w'.cell? ⟨b, o + i * 5, none⟩ = some (.int .i64 x.kind) ∧ w'.cell? ⟨b, o + i * 5 + 1, none⟩ = some (.int .i64 x.num) ∧ w'.cell? ⟨b, o + i * 5 + 2, none⟩ = some (.string x.text) ∧
          w'.cell? ⟨b, o + i * 5 + 3, none⟩ = some (.slice ka' x.keys.length kc') ∧ w'.cell? ⟨b, o + i * 5 + 4, none⟩ = some (.slice ia' x.items.length ic')
        ∧ w'.cell? ⟨w.heap.size + 1, 6, none⟩ = some cv
        ) (by kernel_rfl) rfl ?_
      have S0 := HSS2.out _ (Below.drew (Below.refl _ _))
      refine AnyT.takeY (i := 0) (d := some 80) (v := ?_) rfl rfl (by kernel_rfl) (by kernel_rfl) (by kernel_rfl) (fun _ _ _ h => h) (by rfl) ?_ ?_
      rotate_left
      · intro W
        go_simp
        with_reducible rfl
      simp only [Act.put, List.setIfInBounds_toArray, List.set_cons_zero, List.set_cons_succ]
      refine AnyT.takeY (i := 1) (d := some 81) (v := ?_) rfl rfl (by kernel_rfl) (by kernel_rfl) (by kernel_rfl) (fun _ _ _ h => h) (by rfl) ?_ ?_
      rotate_left
      · intro W
        go_simp
        with_reducible rfl
      simp only [Act.put, List.setIfInBounds_toArray, List.set_cons_zero, List.set_cons_succ]
      refine AnyT.takeY (i := 2) (d := some 82) (v := ?_) rfl rfl (by kernel_rfl) (by kernel_rfl) (by kernel_rfl) (fun _ _ _ h => h) (by rfl) ?_ ?_
      rotate_left
      · intro W
        go_simp
        with_reducible rfl
      simp only [Act.put, List.setIfInBounds_toArray, List.set_cons_zero, List.set_cons_succ]
      refine AnyT.takeY (i := 3) (d := some 83) (v := ?_) rfl rfl (by kernel_rfl) (by kernel_rfl) (by kernel_rfl) (fun _ _ _ h => h) (by rfl) ?_ ?_
      rotate_left
      · intro W
        go_simp
        with_reducible rfl
      simp only [Act.put, List.setIfInBounds_toArray, List.set_cons_zero, List.set_cons_succ]
      refine AnyT.takeS (i := 4) (d := some 84) (v := ?_) rfl rfl (by kernel_rfl) (by kernel_rfl) (by kernel_rfl) (by kernel_rfl) (fun _ _ _ h => h) (by rfl) (by assumption) ?_ ?_
      rotate_left
      · intro W hSw
        try dsimp only at hSw
        go_simp
        with_reducible rfl
      simp only [Act.put, List.setIfInBounds_toArray, List.set_cons_zero, List.set_cons_succ]
      refine AnyT.takeY (i := 5) (d := some 85) (v := ?_) rfl rfl (by kernel_rfl) (by kernel_rfl) (by kernel_rfl) (fun _ _ _ h => h) (by rfl) ?_ ?_
      rotate_left
      · intro W
        go_simp
        with_reducible rfl
      simp only [Act.put, List.setIfInBounds_toArray, List.set_cons_zero, List.set_cons_succ]
      refine AnyT.takeS (i := 6) (d := some 86) (v := ?_) rfl rfl (by kernel_rfl) (by kernel_rfl) (by kernel_rfl) (by kernel_rfl) (fun _ _ _ h => h) (by rfl) (by assumption) ?_ ?_
      rotate_left
      · intro W hSw
        try dsimp only at hSw
        go_simp
        with_reducible rfl
      simp only [Act.put, List.setIfInBounds_toArray, List.set_cons_zero, List.set_cons_succ]
      refine AnyT.takeY (i := 7) (d := some 87) (v := ?_) rfl rfl (by kernel_rfl) (by kernel_rfl) (by kernel_rfl) (fun _ _ _ h => h) (by rfl) ?_ ?_
      rotate_left
      · intro W
        go_simp
        with_reducible rfl
      simp only [Act.put, List.setIfInBounds_toArray, List.set_cons_zero, List.set_cons_succ]
      refine AnyT.takeY (i := 8) (d := some 88) (v := ?_) rfl rfl (by kernel_rfl) (by kernel_rfl) (by kernel_rfl) (fun _ _ _ h => h) (by rfl) ?_ ?_
      rotate_left
      · intro W
        go_simp
        with_reducible rfl
      simp only [Act.put, List.setIfInBounds_toArray, List.set_cons_zero, List.set_cons_succ]
      refine AnyT.takeS (i := 9) (d := some 89) (v := ?_) rfl rfl (by kernel_rfl) (by kernel_rfl) (by kernel_rfl) (by kernel_rfl) (fun _ _ _ h => h) (by rfl) (by assumption) ?_ ?_
      rotate_left
      · intro W hSw
        try dsimp only at hSw
        go_simp
        with_reducible rfl
      simp only [Act.put, List.setIfInBounds_toArray, List.set_cons_zero, List.set_cons_succ]
      refine AnyT.takeY (i := 11) (d := some 91) (v := ?_) rfl rfl (by kernel_rfl) (by kernel_rfl) (by kernel_rfl) (fun _ _ _ h => h) (by rfl) ?_ ?_
      rotate_left
      · intro W
        go_simp
        with_reducible rfl
      simp only [Act.put, List.setIfInBounds_toArray, List.set_cons_zero, List.set_cons_succ]
      refine AnyT.takeS (i := 12) (d := some 92) (v := ?_) rfl rfl (by kernel_rfl) (by kernel_rfl) (by kernel_rfl) (by kernel_rfl) (fun _ _ _ h => h) (by rfl) (by assumption) ?_ ?_
      rotate_left
      · intro W hSw
        try dsimp only at hSw
        go_simp
        with_reducible rfl
      simp only [Act.put, List.setIfInBounds_toArray, List.set_cons_zero, List.set_cons_succ]
      refine AnyT.takeY (i := 13) (d := some 93) (v := ?_) rfl rfl (by kernel_rfl) (by kernel_rfl) (by kernel_rfl) (fun _ _ _ h => h) (by rfl) ?_ ?_
      rotate_left
      · intro W
        go_simp
        with_reducible rfl
      simp only [Act.put, List.setIfInBounds_toArray, List.set_cons_zero, List.set_cons_succ]
      refine AnyT.takeY (i := 14) (d := some 94) (v := ?_) rfl rfl (by kernel_rfl) (by kernel_rfl) (by kernel_rfl) (fun _ _ _ h => h) (by rfl) ?_ ?_
      rotate_left
      · intro W
        go_simp
        with_reducible rfl
      simp only [Act.put, List.setIfInBounds_toArray, List.set_cons_zero, List.set_cons_succ]
      refine AnyT.takeS (i := 15) (d := some 95) (v := ?_) rfl rfl (by kernel_rfl) (by kernel_rfl) (by kernel_rfl) (by kernel_rfl) (fun _ _ _ h => h) (by rfl) (by assumption) ?_ ?_
      rotate_left
      · intro W hSw
        try dsimp only at hSw
        go_simp
        with_reducible rfl
      simp only [Act.put, List.setIfInBounds_toArray, List.set_cons_zero, List.set_cons_succ]
      refine AnyT.takeY (i := 16) (d := some 96) (v := ?_) rfl rfl (by kernel_rfl) (by kernel_rfl) (by kernel_rfl) (fun _ _ _ h => h) (by rfl) ?_ ?_
      rotate_left
      · intro W
        go_simp
        with_reducible rfl
      simp only [Act.put, List.setIfInBounds_toArray, List.set_cons_zero, List.set_cons_succ]
      clear S0 n6
      -- the key's node
      refine AnyT.one (i := 10) rfl (by kernel_rfl) (fun K' hK => ?_)
      go_simp
      go_at_call 47
      refine (scalar_any _ _ _).mono ?_
      rintro e W1 ⟨rfl, hw1⟩
      have U1 : Hid (Below wr.heap.size wr W1) := Lib.hid (by rw [hw1]; exact up_alloc (up_drew (Below.refl _ _)) _)
      have SC : Hid (W1.heap[wr.heap.size]? = some (nodeBlk 8 tStr s (.slice none 0 0))) := Lib.hid (by rw [hw1]; exact blk_new wr.drew _)
      have SZ : Hid (W1.heap.size = wr.heap.size + 1) := Lib.hid (by rw [hw1]; simp)
      clear hw1
      go_wp2_with fail
      refine hK.out _ _ (fun _ _ => HSS2.out _ (U1.out.mono (by omega))) ?_
      clear hK K'
      -- the item's node
      refine AnyT.one (i := 17) rfl (by kernel_rfl) (fun K' hK => ?_)
      go_simp
      go_at_call 27
      refine (HC.out _ U1.out).mono ?_
      rintro e w1 ⟨n, rfl, hn, hb1⟩
      have HN := Lib.hid (hn.move (T := fun b => wr.heap.size ≤ b ∧ b < w1.heap.size) (fun _ _ => rfl) (fun b hb => ⟨by have := hb.1; have := SZ.out; omega, hb.2⟩))
      have HU := Lib.hid (up_trans U1.out hb1)
      have HSC := Lib.hid (blk_up SC.out hb1)
      have HSZ : Hid (wr.heap.size + 1 ≤ w1.heap.size) := Lib.hid (by have := hb1.size; have := SZ.out; omega)
      clear hn hb1
      have O2 := Lib.hid (own_up HB.out.own HU.out)
      have N2 := Lib.hid (blk_up HB.out.node HU.out)
      have hs3 : w.heap.size + 2 ≤ w1.heap.size := by have := HU.out.size; omega
      go_wp2_with fail
      refine hK.out _ _ (fun _ _ => HSS2.out _ (HU.out.mono (by omega))) ?_
      clear hK K'
      -- the two of them, in a row
      refine AnyT.one (i := 18) rfl (by kernel_rfl) (fun K' hK => ?_)
      go_simp
      refine hK.out _ _ (fun _ _ => HSS2.out _ ((HU.out.mono (by omega)).alloc (by omega) _)) ?_
      clear hK K'
      try simp only [Act.put, List.setIfInBounds_toArray, List.set_cons_zero, List.set_cons_succ]
      -- appended
      refine AnyT.one (i := 19) rfl (by kernel_rfl) (fun K' hK => ?_)
      refine step_append_lies _ (by rfl) _ _ _ (by rfl) (w.heap.size + 2) 45 i0 _ 1 8 Tryz.underlying53 hi0 hz0 hz1 hz2 rfl (by omega) cv (2 * i) (ptrs ps) (by rfl) ((O2.out).alloc _)
        ⟨w1.heap.size, 0, none⟩ 2 2 [.pointer (some ⟨wr.heap.size, 0, none⟩), .pointer (some ⟨n, 0, none⟩)] (by rfl) (by rfl) (World.news_of_block (cs := #[.pointer (some ⟨wr.heap.size, 0, none⟩), .pointer (some ⟨n, 0, none⟩)]) (t := 45) (fr := (0, 0)) (heap_alloc_new w1 _)) (by simp [Value.oneCell'])
        (by omega) (by unfold maxLen; omega) (by omega) (by simp; omega) (w1.heap.size + 1) (by simp) ?_
      intro gg cap w3 hown3 hgrow hat hlt3
      have G1 := Lib.hid hown3
      have G2 := Lib.hid hgrow
      have G3 := Lib.hid hat
      have N3 := Lib.hid (blk_own (w1 := w3) (blk_up N2.out (up_alloc (Below.refl _ _) _)) ((O2.out).alloc _) (by omega) hgrow)
      have B3 : Hid (Below (w.heap.size + 2) wr w3) := Lib.hid (Below.grown ((HU.out.mono (by omega)).alloc (by omega) _) hgrow (by simp; omega) (fun k hk => (O2.out.lt k hk).1))
      clear hown3 hgrow hat hlt3
      have r6 : w3.cell? ⟨w.heap.size + 1, 6, none⟩ = some cv := (blk_cell N3.out 6).trans rfl
      have r6' : w3.frozen? ⟨w.heap.size + 1, 6, none⟩ = false := blk_frozen N3.out 6
      refine hK.out _ _ (fun _ _ => HSS2.out _ B3.out) ?_
      clear hK K'
      try simp only [Act.put, List.setIfInBounds_toArray, List.set_cons_zero, List.set_cons_succ]
      refine AnyT.takeY (i := 20) (d := some 100) (v := ?_) rfl rfl (by kernel_rfl) (by kernel_rfl) (by kernel_rfl) (fun _ _ _ h => h) (by rfl) ?_ ?_
      rotate_left
      · intro W
        go_simp
        with_reducible rfl
      simp only [Act.put, List.setIfInBounds_toArray, List.set_cons_zero, List.set_cons_succ]
      refine AnyT.takeY (i := 21) (d := some 101) (v := ?_) rfl rfl (by kernel_rfl) (by kernel_rfl) (by kernel_rfl) (fun _ _ _ h => h) (by rfl) ?_ ?_
      rotate_left
      · intro W
        go_simp
        with_reducible rfl
      simp only [Act.put, List.setIfInBounds_toArray, List.set_cons_zero, List.set_cons_succ]
      refine AnyT.one (i := 22) rfl (by kernel_rfl) (fun K' hK => ?_)
      go_simp
      refine hK.out _ _ (fun _ h => absurd rfl h) ?_
      clear hK K'
      refine AnyT.end (by kernel_rfl) ?_ _
      try simp only [Act.put, List.setIfInBounds_toArray, List.set_cons_zero, List.set_cons_succ]
      clear HSS2 HSS HN6 HQ
      go_wp2
      go_roundg (v.items.length - (i + 1))
      case measure => omega
      case rel =>
        exact ⟨i + 1, _, _, by go_num, by omega, Lib.hid (Bld.step (n := 2 * i) (m := 2) (news := [wr.heap.size, n]) HB.out (QMap.movable _ _) HU.out (new_map HS.out HX.out ⟨Nat.le_refl _, by have := HSZ.out; omega⟩ HSC.out HN.out) rfl G1.out G2.out G3.out), Lib.hid (Bld.box HB.out HU.out G2.out HX0.out)⟩
    · obtain rfl : i = v.items.length := by omega
      go_wp2
      go_ret
      exact ⟨_, rfl, Bld.map HB.out HP0.out HKL.out, HB.out.below⟩
end Go.Proofs.YthdnkcofcbinhaaGreatDoor
