/- The readers of fields: texts and lists of them. -/
import Derived.Test.YthdnkcofcbinhaaGreatDoorBs3J
import Derived.Test.YthdnkcofcbinhaaGreatDoorGnJ
set_option linter.unusedVariables false
set_option linter.unusedSimpArgs false
namespace Go.Proofs.YthdnkcofcbinhaaGreatDoor
open Go.RowKit

theorem info_str : (Tryz.prog.info? 9).map (fun i => (i.zero, i.size, i.bytes)) = some (some (.string ⟨#[]⟩), 1, 16) := by kernel_rfl
theorem make_str : ∀ w : World, (Instr.makeSlice 22 (.int .i64 0) (.int .i64 0)).run Tryz.prog w = .ok (.slice (some ⟨w.heap.size, 0, none⟩) 0 0) (w.alloc (.cells #[] 9)) := fun _ => by kernel_rfl
theorem mov_text (x : Dat) : QMov (fun _ _ j us => TextAt x j us) := fun _ _ _ _ _ _ _ _ h => h
/-- A text's node. -/
theorem NodeOf.textCells {S : Nat → Prop} {w : World} {D : Nat} {x : Dat} {n : Nat} (h : NodeOf S w D x n) (hk : x.kind = 3) : S n ∧ w.cell? ⟨n, 0, none⟩ = some (.int .u32 8) ∧ w.cell? ⟨n, 3, none⟩ = some (.string x.text) := by
  cases D with
  | zero => exact h.elim
  | succ D =>
    obtain ⟨hs, tag, val, hsc, hh⟩ := h.scalar (by omega) (by omega)
    obtain ⟨rfl, rfl⟩ := hsc.text hk
    exact ⟨hs, (blk_cell hh 0).trans rfl, (blk_cell hh 3).trans rfl⟩


set_option maxRecDepth 100000 in
set_option maxHeartbeats 4000000 in
theorem arrayOfStrings_any (B m q n D : Nat) (x : Dat) (w : World) (hB : B ≤ w.heap.size) (hmB : m < B) (hk : x.kind = 4) (h60 : x.items.length ≤ 60) (hsh : ∀ i (h : i < x.items.length), x.items[i].kind = 3)
    (hN : NodeOf (SB B m) w (D + 1) x n) (hm : MapOk Tryz.prog 9 w m) :
    Calls Tryz.prog 41 #[.pointer (some ⟨q, 0, none⟩), .pointer (some ⟨n, 0, none⟩)] w (GivesField B m (D + 1) 8 x w) := by
  obtain ⟨hs, ⟨tag, val, h1, _⟩ | ⟨_, A, c, hh, hit⟩ | ⟨h1, _⟩⟩ := hN
  · exfalso
    rcases h1 with h | h | h | h | h <;> · have := h.1; omega
  rotate_left
  · omega
  have n0 : w.cell? ⟨n, 0, none⟩ = some (.int .u32 2) := (blk_cell hh 0).trans rfl
  have n6 : ∀ o1 o2, ((w.alloc o1).alloc o2).cell? ⟨n, 6, none⟩ = some (.slice A x.items.length c) := fun o1 o2 => cell_up (up_alloc (up_alloc (Below.refl _ _) o1) o2) _ _ ((blk_cell hh 6).trans rfl)
  have HIT := Lib.hid hit
  have HSH := Lib.hid hsh
  have HM := Lib.hid hm
  have HK := Lib.hid hk
  obtain ⟨i0, hi0, hz0, hzz1, hzz2⟩ := info_parts info_str
  have hmk := make_str
  clear hit hs hh hsh hm
  go_enter Tryz.func41, Tryz.ntmps41
  go_wp2
  clear n0 n6 hmk
  go_loopg [28] x.items.length (fun gk v28 wr => ∃ (i : Nat) (cv : Value) (css : List (List Value)), v28 = .int .i64 i ∧ i + gk = x.items.length ∧ Hid (PBox w B m 22 9 1 (fun _ _ j us => TextAt x j us) i cv css wr))
  case atStart => exact ⟨0, _, [], rfl, by omega, Lib.hid (PBox.start HM.out)⟩
  case round =>
    obtain ⟨i, cv, css, rfl, hi, HI⟩ := hrel
    by_cases hlt : i < x.items.length
    · obtain ⟨g, k, hA, hSg, hcell, hkid⟩ := HIT.out i hlt
      subst hA
      have hcell' := grown_cell HI.out.grown hSg.2 hcell
      obtain ⟨hSk, hk0, hk3⟩ := (hkid.grown HI.out.grown hB).textCells (HSH.out i hlt)
      obtain ⟨txt, htxt⟩ : ∃ t, x.items[i].text = t := ⟨_, rfl⟩
      rw [htxt] at hk3
      have HTX := Lib.hid htxt
      have hz := HI.out.size
      have i1 : (i : Int) < (x.items.length : Int) := by omega
      have i0' : (0 : Int) ≤ (i : Int) := by omega
      have HK3 := Lib.hid hk3
      have HKB : Hid (k < B) := Lib.hid hSk.1
      clear hSg hcell hkid htxt hSk hk3
      go_wp2
      clear hcell' hk0
      refine AnyT.begin (L := 7) (n := 8) (S := fun w' =>
        w'.cell? ⟨w.heap.size + 1, 0, none⟩ = some cv ∧ w'.cell? ⟨k, 3, none⟩ = some (.string txt)
        ) (by kernel_rfl) rfl ?_
      have I1 := Lib.hid (HI.out.keep (mov_text _) hB hmB (grown_below _ (up_drew (Below.refl _ _))) (HI.out.map.up (up_drew (Below.refl _ _))))
      have S0 :
        wr.drew.cell? ⟨w.heap.size + 1, 0, none⟩ = some cv ∧ wr.drew.cell? ⟨k, 3, none⟩ = some (.string txt)
        := ⟨(blk_cell I1.out.box 0).trans rfl, HK3.out⟩
      generalize wr.drew = we at I1 S0 ⊢
      have hze := I1.out.size
      have HST : Hid (∀ W, Below we.heap.size we W →
        W.cell? ⟨w.heap.size + 1, 0, none⟩ = some cv ∧ W.cell? ⟨k, 3, none⟩ = some (.string txt)
        ) := Lib.hid (fun W hb => ⟨cell_up hb _ _ S0.1, cell_up hb _ _ S0.2⟩)
      refine AnyT.takeS (i := 0) (d := some 38) (v := ?_) rfl rfl (by kernel_rfl) (by kernel_rfl) (by kernel_rfl) (by kernel_rfl) (fun _ _ _ h => h) (by rfl) (by assumption) ?_ ?_
      rotate_left
      · intro W hSw
        try dsimp only at hSw
        go_simp
        with_reducible rfl
      try simp only [Act.put, List.setIfInBounds_toArray, List.set_cons_zero, List.set_cons_succ]
      refine AnyT.takeY (i := 1) (d := some 39) (v := ?_) rfl rfl (by kernel_rfl) (by kernel_rfl) (by kernel_rfl) (fun _ _ _ h => h) (by rfl) ?_ ?_
      rotate_left
      · intro W
        go_simp
        with_reducible rfl
      try simp only [Act.put, List.setIfInBounds_toArray, List.set_cons_zero, List.set_cons_succ]
      refine AnyT.takeY (i := 2) (d := some 40) (v := ?_) rfl rfl (by kernel_rfl) (by kernel_rfl) (by kernel_rfl) (fun _ _ _ h => h) (by rfl) ?_ ?_
      rotate_left
      · intro W
        go_simp
        with_reducible rfl
      try simp only [Act.put, List.setIfInBounds_toArray, List.set_cons_zero, List.set_cons_succ]
      refine AnyT.takeY (i := 3) (d := some 41) (v := ?_) rfl rfl (by kernel_rfl) (by kernel_rfl) (by kernel_rfl) (fun _ _ _ h => h) (by rfl) ?_ ?_
      rotate_left
      · intro W
        go_simp
        with_reducible rfl
      try simp only [Act.put, List.setIfInBounds_toArray, List.set_cons_zero, List.set_cons_succ]
      refine AnyT.takeS (i := 4) (d := some 42) (v := ?_) rfl rfl (by kernel_rfl) (by kernel_rfl) (by kernel_rfl) (by kernel_rfl) (fun _ _ _ h => h) (by rfl) (by assumption) ?_ ?_
      rotate_left
      · intro W hSw
        try dsimp only at hSw
        go_simp
        with_reducible rfl
      try simp only [Act.put, List.setIfInBounds_toArray, List.set_cons_zero, List.set_cons_succ]
      have HBK : Hid (k < we.heap.size) := Lib.hid (World.block_lt_of_cell? we _ S0.2)
      clear S0
      refine AnyT.one (i := 5) rfl (by kernel_rfl) (fun K' hK => ?_)
      go_simp
      refine hK.out _ _ (fun _ _ => HST.out _ (up_alloc (Below.refl _ _) _)) ?_
      clear hK K'
      try simp only [Act.put, List.setIfInBounds_toArray, List.set_cons_zero, List.set_cons_succ]
      refine AnyT.one (i := 6) rfl (by kernel_rfl) (fun K' hK => ?_)
      refine step_append_lies _ (by rfl) _ _ _ (by rfl) w.heap.size 9 i0 _ 1 16 Tryz.underlying22 hi0 hz0 hzz1 hzz2 rfl (by omega) cv i css.flatten (by rfl) ((I1.out.row.own).alloc _)
        ⟨we.heap.size, 0, none⟩ 1 1 [.string txt] (by rfl) (by rfl) (World.news_of_block (cs := #[.string txt]) (t := 9) (fr := (0, 0)) (heap_alloc_new we _)) (by simp [Value.oneCell'])
        (by omega) (by unfold maxLen; omega) (by omega) (by simp; omega) (we.heap.size + 1) (by simp) ?_
      intro gg cap w5 hown5 hgrow5 hat5 hlt5
      have I6 := Lib.hid (I1.out.next (cs := [.string txt]) (mov_text _) hB hmB (grown_refl _ _) I1.out.map ⟨hlt, by rw [HTX.out]⟩ rfl hown5 hgrow5 hat5)
      have N5 := Lib.hid ((hgrow5.block (w.heap.size + 1) (by simp; omega) (fun e => I1.out.row.nbx e.symm)).trans (blk_up I1.out.box (up_alloc (Below.refl _ _) _)))
      have S5 : Hid (
        w5.cell? ⟨w.heap.size + 1, 0, none⟩ = some cv ∧ w5.cell? ⟨k, 3, none⟩ = some (.string txt)
        ) := Lib.hid (by
          obtain ⟨q1, q2⟩ := HST.out _ (up_alloc (Below.refl _ _) (.cells #[.string txt] 9))
          refine ⟨(blk_cell N5.out 0).trans rfl, ?_⟩
          have hkl := I1.out.row.own.lt
          refine (World.cell?_of_block (a := ⟨k, 3, none⟩) (hgrow5.block k (by simp; have := HBK.out; omega) (fun e => ?_))).trans q2
          have h1 := (hkl _ e.symm).1
          have h2 := HKB.out
          omega)
      have b5 : w5.cell? ⟨w.heap.size + 1, 0, none⟩ = some cv := S5.out.1
      have b5' : w5.frozen? ⟨w.heap.size + 1, 0, none⟩ = false := blk_frozen N5.out 0
      clear hown5 hgrow5 hat5 hlt5
      refine hK.out _ _ (fun _ _ => S5.out) ?_
      clear hK K'
      try simp only [Act.put, List.setIfInBounds_toArray, List.set_cons_zero, List.set_cons_succ]
      refine AnyT.one (i := 7) rfl (by kernel_rfl) (fun K' hK => ?_)
      go_simp
      refine hK.out _ _ (fun _ h => absurd rfl h) ?_
      clear hK K'
      refine AnyT.end (by kernel_rfl) ?_ _
      try simp only [Act.put, List.setIfInBounds_toArray, List.set_cons_zero, List.set_cons_succ]
      clear b5 b5' S5 HST N5
      go_wp2
      go_roundg (x.items.length - (i + 1))
      case measure => omega
      case rel => exact ⟨i + 1, _, _, by go_num, by omega, I6⟩
    · have hall : i = x.items.length := by omega
      subst hall
      go_wp2
      go_ret
      exact ⟨_, rfl, HI.out.whole (mov_text _) (by omega), HI.out.grown, HI.out.map⟩
end Go.Proofs.YthdnkcofcbinhaaGreatDoor

/- The readers of fields: a text or a list of texts. -/
namespace Go.Proofs.YthdnkcofcbinhaaGreatDoor
open Go.RowKit



set_option maxRecDepth 100000 in
set_option maxHeartbeats 4000000 in
theorem stringOrStringArray_list (B m q n D : Nat) (x : Dat) (w : World) (hB : B ≤ w.heap.size) (hmB : m < B) (hk : x.kind = 4) (h60 : x.items.length ≤ 60) (hsh : ∀ i (h : i < x.items.length), x.items[i].kind = 3)
    (hN : NodeOf (SB B m) w (D + 1) x n) (hm : MapOk Tryz.prog 9 w m) :
    Calls Tryz.prog 45 #[.pointer (some ⟨q, 0, none⟩), .pointer (some ⟨n, 0, none⟩)] w (GivesField B m (D + 1) 12 x w) := by
  obtain ⟨hs, ⟨tag, val, h1, _⟩ | ⟨_, A, c, hh, hit⟩ | ⟨h1, _⟩⟩ := hN
  · exfalso
    rcases h1 with h | h | h | h | h <;> · have := h.1; omega
  rotate_left
  · omega
  have n0 : w.cell? ⟨n, 0, none⟩ = some (.int .u32 2) := (blk_cell hh 0).trans rfl
  have n6 : ∀ o1 o2, ((w.alloc o1).alloc o2).cell? ⟨n, 6, none⟩ = some (.slice A x.items.length c) := fun o1 o2 => cell_up (up_alloc (up_alloc (Below.refl _ _) o1) o2) _ _ ((blk_cell hh 6).trans rfl)
  have HIT := Lib.hid hit
  have HSH := Lib.hid hsh
  have HM := Lib.hid hm
  have HK := Lib.hid hk
  obtain ⟨i0, hi0, hz0, hzz1, hzz2⟩ := info_parts info_str
  have hmk := make_str
  clear hit hs hh hsh hm
  go_enter Tryz.func45, Tryz.ntmps45
  go_wp2
  clear n0 n6 hmk
  go_loopg [33] x.items.length (fun gk v33 wr => ∃ (i : Nat) (cv : Value) (css : List (List Value)), v33 = .int .i64 i ∧ i + gk = x.items.length ∧ Hid (PBox w B m 22 9 1 (fun _ _ j us => TextAt x j us) i cv css wr))
  case atStart => exact ⟨0, _, [], rfl, by omega, Lib.hid (PBox.start HM.out)⟩
  case round =>
    obtain ⟨i, cv, css, rfl, hi, HI⟩ := hrel
    by_cases hlt : i < x.items.length
    · obtain ⟨g, k, hA, hSg, hcell, hkid⟩ := HIT.out i hlt
      subst hA
      have hcell' := grown_cell HI.out.grown hSg.2 hcell
      obtain ⟨hSk, hk0, hk3⟩ := (hkid.grown HI.out.grown hB).textCells (HSH.out i hlt)
      obtain ⟨txt, htxt⟩ : ∃ t, x.items[i].text = t := ⟨_, rfl⟩
      rw [htxt] at hk3
      have HTX := Lib.hid htxt
      have hz := HI.out.size
      have i1 : (i : Int) < (x.items.length : Int) := by omega
      have i0' : (0 : Int) ≤ (i : Int) := by omega
      have HK3 := Lib.hid hk3
      have HKB : Hid (k < B) := Lib.hid hSk.1
      clear hSg hcell hkid htxt hSk hk3
      go_wp2
      clear hcell' hk0
      refine AnyT.begin (L := 7) (n := 8) (S := fun w' =>
        w'.cell? ⟨w.heap.size + 1, 0, none⟩ = some cv ∧ w'.cell? ⟨k, 3, none⟩ = some (.string txt)
        ) (by kernel_rfl) rfl ?_
      have I1 := Lib.hid (HI.out.keep (mov_text _) hB hmB (grown_below _ (up_drew (Below.refl _ _))) (HI.out.map.up (up_drew (Below.refl _ _))))
      have S0 :
        wr.drew.cell? ⟨w.heap.size + 1, 0, none⟩ = some cv ∧ wr.drew.cell? ⟨k, 3, none⟩ = some (.string txt)
        := ⟨(blk_cell I1.out.box 0).trans rfl, HK3.out⟩
      generalize wr.drew = we at I1 S0 ⊢
      have hze := I1.out.size
      have HST : Hid (∀ W, Below we.heap.size we W →
        W.cell? ⟨w.heap.size + 1, 0, none⟩ = some cv ∧ W.cell? ⟨k, 3, none⟩ = some (.string txt)
        ) := Lib.hid (fun W hb => ⟨cell_up hb _ _ S0.1, cell_up hb _ _ S0.2⟩)
      refine AnyT.takeS (i := 0) (d := some 43) (v := ?_) rfl rfl (by kernel_rfl) (by kernel_rfl) (by kernel_rfl) (by kernel_rfl) (fun _ _ _ h => h) (by rfl) (by assumption) ?_ ?_
      rotate_left
      · intro W hSw
        try dsimp only at hSw
        go_simp
        with_reducible rfl
      try simp only [Act.put, List.setIfInBounds_toArray, List.set_cons_zero, List.set_cons_succ]
      refine AnyT.takeY (i := 1) (d := some 44) (v := ?_) rfl rfl (by kernel_rfl) (by kernel_rfl) (by kernel_rfl) (fun _ _ _ h => h) (by rfl) ?_ ?_
      rotate_left
      · intro W
        go_simp
        with_reducible rfl
      try simp only [Act.put, List.setIfInBounds_toArray, List.set_cons_zero, List.set_cons_succ]
      refine AnyT.takeY (i := 2) (d := some 45) (v := ?_) rfl rfl (by kernel_rfl) (by kernel_rfl) (by kernel_rfl) (fun _ _ _ h => h) (by rfl) ?_ ?_
      rotate_left
      · intro W
        go_simp
        with_reducible rfl
      try simp only [Act.put, List.setIfInBounds_toArray, List.set_cons_zero, List.set_cons_succ]
      refine AnyT.takeY (i := 3) (d := some 46) (v := ?_) rfl rfl (by kernel_rfl) (by kernel_rfl) (by kernel_rfl) (fun _ _ _ h => h) (by rfl) ?_ ?_
      rotate_left
      · intro W
        go_simp
        with_reducible rfl
      try simp only [Act.put, List.setIfInBounds_toArray, List.set_cons_zero, List.set_cons_succ]
      refine AnyT.takeS (i := 4) (d := some 47) (v := ?_) rfl rfl (by kernel_rfl) (by kernel_rfl) (by kernel_rfl) (by kernel_rfl) (fun _ _ _ h => h) (by rfl) (by assumption) ?_ ?_
      rotate_left
      · intro W hSw
        try dsimp only at hSw
        go_simp
        with_reducible rfl
      try simp only [Act.put, List.setIfInBounds_toArray, List.set_cons_zero, List.set_cons_succ]
      have HBK : Hid (k < we.heap.size) := Lib.hid (World.block_lt_of_cell? we _ S0.2)
      clear S0
      refine AnyT.one (i := 5) rfl (by kernel_rfl) (fun K' hK => ?_)
      go_simp
      refine hK.out _ _ (fun _ _ => HST.out _ (up_alloc (Below.refl _ _) _)) ?_
      clear hK K'
      try simp only [Act.put, List.setIfInBounds_toArray, List.set_cons_zero, List.set_cons_succ]
      refine AnyT.one (i := 6) rfl (by kernel_rfl) (fun K' hK => ?_)
      refine step_append_lies _ (by rfl) _ _ _ (by rfl) w.heap.size 9 i0 _ 1 16 Tryz.underlying22 hi0 hz0 hzz1 hzz2 rfl (by omega) cv i css.flatten (by rfl) ((I1.out.row.own).alloc _)
        ⟨we.heap.size, 0, none⟩ 1 1 [.string txt] (by rfl) (by rfl) (World.news_of_block (cs := #[.string txt]) (t := 9) (fr := (0, 0)) (heap_alloc_new we _)) (by simp [Value.oneCell'])
        (by omega) (by unfold maxLen; omega) (by omega) (by simp; omega) (we.heap.size + 1) (by simp) ?_
      intro gg cap w5 hown5 hgrow5 hat5 hlt5
      have I6 := Lib.hid (I1.out.next (cs := [.string txt]) (mov_text _) hB hmB (grown_refl _ _) I1.out.map ⟨hlt, by rw [HTX.out]⟩ rfl hown5 hgrow5 hat5)
      have N5 := Lib.hid ((hgrow5.block (w.heap.size + 1) (by simp; omega) (fun e => I1.out.row.nbx e.symm)).trans (blk_up I1.out.box (up_alloc (Below.refl _ _) _)))
      have S5 : Hid (
        w5.cell? ⟨w.heap.size + 1, 0, none⟩ = some cv ∧ w5.cell? ⟨k, 3, none⟩ = some (.string txt)
        ) := Lib.hid (by
          obtain ⟨q1, q2⟩ := HST.out _ (up_alloc (Below.refl _ _) (.cells #[.string txt] 9))
          refine ⟨(blk_cell N5.out 0).trans rfl, ?_⟩
          have hkl := I1.out.row.own.lt
          refine (World.cell?_of_block (a := ⟨k, 3, none⟩) (hgrow5.block k (by simp; have := HBK.out; omega) (fun e => ?_))).trans q2
          have h1 := (hkl _ e.symm).1
          have h2 := HKB.out
          omega)
      have b5 : w5.cell? ⟨w.heap.size + 1, 0, none⟩ = some cv := S5.out.1
      have b5' : w5.frozen? ⟨w.heap.size + 1, 0, none⟩ = false := blk_frozen N5.out 0
      clear hown5 hgrow5 hat5 hlt5
      refine hK.out _ _ (fun _ _ => S5.out) ?_
      clear hK K'
      try simp only [Act.put, List.setIfInBounds_toArray, List.set_cons_zero, List.set_cons_succ]
      refine AnyT.one (i := 7) rfl (by kernel_rfl) (fun K' hK => ?_)
      go_simp
      refine hK.out _ _ (fun _ h => absurd rfl h) ?_
      clear hK K'
      refine AnyT.end (by kernel_rfl) ?_ _
      try simp only [Act.put, List.setIfInBounds_toArray, List.set_cons_zero, List.set_cons_succ]
      clear b5 b5' S5 HST N5
      go_wp2
      go_roundg (x.items.length - (i + 1))
      case measure => omega
      case rel => exact ⟨i + 1, _, _, by go_num, by omega, I6⟩
    · have hall : i = x.items.length := by omega
      subst hall
      go_wp2
      go_ret
      have hz := HI.out.size
      have hb := up_alloc (Below.refl wr.heap.size wr) (.cells #[.pointer none, .pointer (some ⟨w.heap.size + 1, 0, none⟩)] 119)
      have hW := (HI.out.whole (mov_text _) (by omega)).move (T := SN B m w.heap.size (wr.heap.size + 1)) (w1 := wr.alloc (.cells #[.pointer none, .pointer (some ⟨w.heap.size + 1, 0, none⟩)] 119)) (fun k hk => hb.block k (SN_lt (by omega) hk)) (fun k hk => SN_up (by omega) hk)
        (P' := TextAt x) (fun j us h => h)
      have ez : (wr.alloc (.cells #[.pointer none, .pointer (some ⟨w.heap.size + 1, 0, none⟩)] 119)).heap.size = wr.heap.size + 1 := by simp
      refine ⟨_, rfl, ?_, grown_trans HI.out.grown (grown_below _ hb), HI.out.map.up hb⟩
      rw [ez]
      exact ⟨wr.heap.size, rfl, .inr ⟨by omega, by omega⟩, .inr ⟨HK.out, _, blk_new wr _, hW⟩⟩

set_option maxHeartbeats 1000000 in
theorem stringOrStringArray_text (B m q n D : Nat) (x : Dat) (w : World) (hk : x.kind = 3) (hN : NodeOf (SB B m) w (D + 1) x n) (hm : MapOk Tryz.prog 9 w m) :
    Calls Tryz.prog 45 #[.pointer (some ⟨q, 0, none⟩), .pointer (some ⟨n, 0, none⟩)] w (GivesField B m (D + 1) 12 x w) := by
  obtain ⟨hs, hk0, hk3⟩ := hN.textCells hk
  have HS := Lib.hid hs
  have HK := Lib.hid hk
  have HK3 := Lib.hid hk3
  have HM := Lib.hid hm
  clear hN hs hk hk3 hm
  go_enter Tryz.func45, Tryz.ntmps45
  go_wp2
  go_ret
  have hb := up_alloc (Below.refl w.heap.size w) (.cells #[.pointer (some ⟨n, 3, none⟩), .pointer none] 119)
  have ez : (w.alloc (.cells #[.pointer (some ⟨n, 3, none⟩), .pointer none] 119)).heap.size = w.heap.size + 1 := by simp
  refine ⟨_, rfl, ?_, grown_below _ hb, HM.out.up hb⟩
  rw [ez]
  exact ⟨w.heap.size, rfl, .inr ⟨by omega, by omega⟩, .inl ⟨HK.out, _, blk_new w _, n, 3, rfl, .inl HS.out, cell_up hb _ _ HK3.out⟩⟩
end Go.Proofs.YthdnkcofcbinhaaGreatDoor
