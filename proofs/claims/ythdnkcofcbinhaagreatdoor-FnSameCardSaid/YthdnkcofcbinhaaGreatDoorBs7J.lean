/- The readers of fields: enumerations. -/
import Derived.Test.YthdnkcofcbinhaaGreatDoorBs5J
set_option linter.unusedVariables false
set_option linter.unusedSimpArgs false
namespace Go.Proofs.YthdnkcofcbinhaaGreatDoor
open Go.RowKit

theorem info_enum : (Tryz.prog.info? 117).map (fun i => (i.zero, i.size, i.bytes)) = some (some (.agg #[.pointer none, .pointer none]), 2, 16) := by kernel_rfl
theorem make_enum : ∀ w : World, (Instr.makeSlice 115 (.int .i64 0) (.int .i64 0)).run Tryz.prog w = .ok (.slice (some ⟨w.heap.size, 0, none⟩) 0 0) (w.alloc (.cells #[] 117)) := fun _ => by kernel_rfl
theorem mov_enum (x : Dat) : QMov (fun S w j us => EnumAt S w x j us) := fun S T w w1 j cs hb hT h => h.move hb hT
/-- A truth value's node. -/
theorem NodeOf.boolCells {S : Nat → Prop} {w : World} {D : Nat} {x : Dat} {n : Nat} (h : NodeOf S w D x n) (hk : x.kind = 1) : S n ∧ w.cell? ⟨n, 0, none⟩ = some (.int .u32 8) ∧ w.cell? ⟨n, 2, none⟩ = some (.string tBool) ∧ w.cell? ⟨n, 3, none⟩ = some (.string (if x.num == 1 then bTrue else bFalse)) := by
  cases D with
  | zero => exact h.elim
  | succ D =>
    obtain ⟨hs, tag, val, hsc, hh⟩ := h.scalar (by omega) (by omega)
    obtain ⟨rfl, rfl⟩ := hsc.bool hk
    exact ⟨hs, (blk_cell hh 0).trans rfl, (blk_cell hh 2).trans rfl, (blk_cell hh 3).trans rfl⟩
theorem NodeOf.textTag {S : Nat → Prop} {w : World} {D : Nat} {x : Dat} {n : Nat} (h : NodeOf S w D x n) (hk : x.kind = 3) : w.cell? ⟨n, 2, none⟩ = some (.string tStr) := by
  cases D with
  | zero => exact h.elim
  | succ D =>
    obtain ⟨hs, tag, val, hsc, hh⟩ := h.scalar (by omega) (by omega)
    obtain ⟨rfl, rfl⟩ := hsc.text hk
    exact (blk_cell hh 2).trans rfl


set_option maxRecDepth 100000 in
set_option maxHeartbeats 4000000 in
theorem arrayOfEnumValues_any (B m q n D : Nat) (x : Dat) (w : World) (hB : B ≤ w.heap.size) (hmB : m < B) (hk : x.kind = 4) (h60 : x.items.length ≤ 60) (hsh : ∀ i (h : i < x.items.length), x.items[i].kind = 3 ∨ x.items[i].kind = 1)
    (hN : NodeOf (SB B m) w (D + 1) x n) (hm : MapOk Tryz.prog 9 w m) :
    Calls Tryz.prog 44 #[.pointer (some ⟨q, 0, none⟩), .pointer (some ⟨n, 0, none⟩)] w (GivesField B m (D + 1) 11 x w) := by
  obtain ⟨hs, ⟨tag, val, h1, _⟩ | ⟨_, A, c, hh, hit⟩ | ⟨h1, _⟩⟩ := hN
  · exfalso
    rcases h1 with h | h | h | h | h <;> · have := h.1; omega
  rotate_left
  · omega
  have n0 : ∀ o1 o2, ((w.alloc o1).alloc o2).cell? ⟨n, 0, none⟩ = some (.int .u32 2) := fun o1 o2 => cell_up (up_alloc (up_alloc (Below.refl _ _) o1) o2) _ _ ((blk_cell hh 0).trans rfl)
  have n6 : ∀ o1 o2, ((w.alloc o1).alloc o2).cell? ⟨n, 6, none⟩ = some (.slice A x.items.length c) := fun o1 o2 => cell_up (up_alloc (up_alloc (Below.refl _ _) o1) o2) _ _ ((blk_cell hh 6).trans rfl)
  have HIT := Lib.hid hit
  have HSH := Lib.hid hsh
  have HM := Lib.hid hm
  have HK := Lib.hid hk
  obtain ⟨i0, hi0, hz0, hzz1, hzz2⟩ := info_parts info_enum
  have hmk := make_enum
  clear hit hs hh hsh hm
  go_enter Tryz.func44, Tryz.ntmps44
  go_wp2
  clear n0 n6 hmk
  go_loopg [22] x.items.length (fun gk v22 wr => ∃ (i : Nat) (cv : Value) (css : List (List Value)), v22 = .int .i64 i ∧ i + gk = x.items.length ∧ Hid (PBox w B m 115 117 2 (fun S w j us => EnumAt S w x j us) i cv css wr))
  case atStart => exact ⟨0, _, [], rfl, by omega, Lib.hid (PBox.start HM.out)⟩
  case round =>
    obtain ⟨i, cv, css, rfl, hi, HI⟩ := hrel
    by_cases hlt : i < x.items.length
    · obtain ⟨g, k, hA, hSg, hcell, hkid⟩ := HIT.out i hlt
      subst hA
      have hcell' := grown_cell HI.out.grown hSg.2 hcell
      have hkid' := hkid.grown HI.out.grown hB
      have hz := HI.out.size
      have i1 : (i : Int) < (x.items.length : Int) := by omega
      have i0' : (0 : Int) ≤ (i : Int) := by omega
      rcases HSH.out i hlt with h3 | h1
      · obtain ⟨hSk, hk0, hk3⟩ := hkid'.textCells h3
        have hk2 := hkid'.textTag h3
        unfold tStr at hk2
        have HK3 := Lib.hid hk3
        have HSK := Lib.hid hSk
        have H3 := Lib.hid h3
        clear hSg hcell hkid hkid' hSk hk3 h3
        go_wp2
        clear hcell' hk0 hk2
        refine AnyT.begin (L := 7) (n := 8) (S := fun w' => w'.cell? ⟨w.heap.size + 1, 0, none⟩ = some cv) (by kernel_rfl) rfl ?_
        have I1 := Lib.hid (HI.out.keep (mov_enum _) hB hmB (grown_below _ (up_drew (Below.refl _ _))) (HI.out.map.up (up_drew (Below.refl _ _))))
        have K1 : Hid (wr.drew.cell? ⟨k, 3, none⟩ = some (.string x.items[i].text)) := Lib.hid HK3.out
        have S0 : wr.drew.cell? ⟨w.heap.size + 1, 0, none⟩ = some cv := (blk_cell I1.out.box 0).trans rfl
        generalize wr.drew = we at I1 S0 K1 ⊢
        have hze := I1.out.size
        have HST : Hid (∀ W, Below we.heap.size we W → W.cell? ⟨w.heap.size + 1, 0, none⟩ = some cv) := Lib.hid (fun W hb => cell_up hb _ _ S0)
        refine AnyT.takeS (i := 0) (d := some 38) (v := ?_) rfl rfl (by kernel_rfl) (by kernel_rfl) (by kernel_rfl) (by kernel_rfl) (fun _ _ _ h => h) (by rfl) (by assumption) ?_ ?_
        rotate_left
        · intro W hSw
          try dsimp only at hSw
          go_simp
          with_reducible rfl
        try simp only [Act.put, List.setIfInBounds_toArray, List.set_cons_zero, List.set_cons_succ]
        refine AnyT.takeY (i := 1) (d := some 39) (v := ?_) rfl rfl (by kernel_rfl) (by kernel_rfl) (by kernel_rfl) (fun _ _ _ h => h) (by rfl) ?_ ?_
        rotate_left
        · intro W
          go_simp
          with_reducible rfl
        try simp only [Act.put, List.setIfInBounds_toArray, List.set_cons_zero, List.set_cons_succ]
        refine AnyT.takeY (i := 2) (d := some 40) (v := ?_) rfl rfl (by kernel_rfl) (by kernel_rfl) (by kernel_rfl) (fun _ _ _ h => h) (by rfl) ?_ ?_
        rotate_left
        · intro W
          go_simp
          with_reducible rfl
        try simp only [Act.put, List.setIfInBounds_toArray, List.set_cons_zero, List.set_cons_succ]
        refine AnyT.takeY (i := 3) (d := some 41) (v := ?_) rfl rfl (by kernel_rfl) (by kernel_rfl) (by kernel_rfl) (fun _ _ _ h => h) (by rfl) ?_ ?_
        rotate_left
        · intro W
          go_simp
          with_reducible rfl
        try simp only [Act.put, List.setIfInBounds_toArray, List.set_cons_zero, List.set_cons_succ]
        refine AnyT.takeY (i := 4) (d := some 42) (v := ?_) rfl rfl (by kernel_rfl) (by kernel_rfl) (by kernel_rfl) (fun _ _ _ h => h) (by rfl) ?_ ?_
        rotate_left
        · intro W
          go_simp
          with_reducible rfl
        try simp only [Act.put, List.setIfInBounds_toArray, List.set_cons_zero, List.set_cons_succ]
        clear S0
        refine AnyT.one (i := 5) rfl (by kernel_rfl) (fun K' hK => ?_)
        go_simp
        refine hK.out _ _ (fun _ _ => HST.out _ (up_alloc (Below.refl _ _) _)) ?_
        clear hK K'
        try simp only [Act.put, List.setIfInBounds_toArray, List.set_cons_zero, List.set_cons_succ]
        refine AnyT.one (i := 6) rfl (by kernel_rfl) (fun K' hK => ?_)
        refine step_append_lies _ (by rfl) _ _ _ (by rfl) w.heap.size 117 i0 _ 2 16 Tryz.underlying115 hi0 hz0 hzz1 hzz2 rfl (by omega) cv i css.flatten (by rfl) ((I1.out.row.own).alloc _)
          ⟨we.heap.size, 0, none⟩ 1 1 [.pointer (some ⟨k, 3, none⟩), .pointer none] (by rfl) (by rfl) (World.news_of_block (cs := #[.pointer (some ⟨k, 3, none⟩), .pointer none]) (t := 117) (fr := (0, 0)) (heap_alloc_new we _)) (by simp [Value.oneCell'])
          (by omega) (by unfold maxLen; omega) (by omega) (by simp; omega) (we.heap.size + 1) (by simp) ?_
        intro gg cap w5 hown5 hgrow5 hat5 hlt5
        have I6 := Lib.hid (I1.out.next (cs := [.pointer (some ⟨k, 3, none⟩), .pointer none]) (mov_enum _) hB hmB (grown_refl _ _) I1.out.map ⟨hlt, _, .inl ⟨H3.out, rfl, k, 3, rfl, .inl HSK.out, K1.out⟩⟩ rfl hown5 hgrow5 hat5)
        have N5 := Lib.hid ((hgrow5.block (w.heap.size + 1) (by simp; omega) (fun e => I1.out.row.nbx e.symm)).trans (blk_up I1.out.box (up_alloc (Below.refl _ _) _)))
        have b5 : w5.cell? ⟨w.heap.size + 1, 0, none⟩ = some cv := (blk_cell N5.out 0).trans rfl
        have b5' : w5.frozen? ⟨w.heap.size + 1, 0, none⟩ = false := blk_frozen N5.out 0
        clear hown5 hgrow5 hat5 hlt5
        refine hK.out _ _ (fun _ _ => b5) ?_
        clear hK K'
        try simp only [Act.put, List.setIfInBounds_toArray, List.set_cons_zero, List.set_cons_succ]
        refine AnyT.one (i := 7) rfl (by kernel_rfl) (fun K' hK => ?_)
        go_simp
        refine hK.out _ _ (fun _ h => absurd rfl h) ?_
        clear hK K'
        refine AnyT.end (by kernel_rfl) ?_ _
        try simp only [Act.put, List.setIfInBounds_toArray, List.set_cons_zero, List.set_cons_succ]
        clear b5 b5' HST N5
        go_wp2
        go_roundg (x.items.length - (i + 1))
        case measure => omega
        case rel => exact ⟨i + 1, _, _, by go_num, by omega, I6⟩
      · obtain ⟨hSk, hk0, hk2, hk3⟩ := hkid'.boolCells h1
        unfold tBool at hk2
        have H1 := Lib.hid h1
        have HP := Lib.hid (ParseBool_any (x.items[i].num == 1) wr)
        obtain ⟨val, hval⟩ : ∃ val, (if x.items[i].num == 1 then bTrue else bFalse) = val := ⟨_, rfl⟩
        rw [hval] at hk3 HP
        clear hSg hcell hkid hkid' hSk h1 hval
        go_wp2_with fail
        go_at_call 54
        refine HP.out.mono ?_
        rintro e w1 ⟨rfl, rfl⟩
        have hb1 : ∀ o, Below wr.heap.size wr (wr.alloc o) := fun o => up_alloc (Below.refl _ _) o
        have I4 := Lib.hid (HI.out.keep (mov_enum _) hB hmB (grown_below _ (hb1 (.cells #[.bool (x.items[i].num == 1)] 4))) (HI.out.map.up (hb1 _)))
        have bx : wr.cell? ⟨w.heap.size + 1, 0, none⟩ = some cv := (blk_cell HI.out.box 0).trans rfl
        clear hcell' hk0 hk2 hk3 hb1
        have hzr : w.heap.size + 1 < wr.heap.size := by omega
        go_wp2_with (first
          | (at_builtin
             refine wpList_append_lies _ rfl (.tmp 55) (.tmp 57) 115 rfl w.heap.size 117 i0 _ 2 16 Tryz.underlying115 hi0 hz0 hzz1 hzz2 rfl (by omega) _ i css.flatten rfl ((I4.out.row.own).alloc _)
               ⟨wr.heap.size + 1, 0, none⟩ 1 1 [.pointer none, .pointer (some ⟨wr.heap.size, 0, none⟩)] rfl rfl (World.news_of_block (cs := #[.pointer none, .pointer (some ⟨wr.heap.size, 0, none⟩)]) (t := 117) (fr := (0, 0)) (blk_new2 wr _ _)) (by simp [Value.oneCell']) (by omega) (by unfold maxLen; omega) (by omega) (by simp; omega) (wr.heap.size + 2) (by simp) ?_))
        intro gg cap w5 hown5 hgrow5 hat5 hlt5
        have ez : (wr.alloc (.cells #[.bool (x.items[i].num == 1)] 4)).heap.size = wr.heap.size + 1 := by simp
        have I6 := Lib.hid (HI.out.next (w1 := wr.alloc (.cells #[.bool (x.items[i].num == 1)] 4)) (cs := [.pointer none, .pointer (some ⟨wr.heap.size, 0, none⟩)]) (mov_enum _) hB hmB (grown_below _ (up_alloc (Below.refl _ _) _)) (HI.out.map.up (up_alloc (Below.refl _ _) _))
          ⟨hlt, _, .inr ⟨H1.out, rfl, wr.heap.size, 0, rfl, .inr ⟨Nat.le_refl _, by omega⟩, (blk_cell (blk_new wr _) 0).trans rfl⟩⟩ rfl hown5 hgrow5 (by rw [ez]; exact hat5))
        have N5 := Lib.hid ((hgrow5.block (w.heap.size + 1) (by simp; omega) (fun e => I4.out.row.nbx e.symm)).trans (blk_up I4.out.box (up_alloc (Below.refl _ _) _)))
        have b5 : w5.cell? ⟨w.heap.size + 1, 0, none⟩ = some cv := (blk_cell N5.out 0).trans rfl
        have b5' : w5.frozen? ⟨w.heap.size + 1, 0, none⟩ = false := blk_frozen N5.out 0
        clear hown5 hgrow5 hat5 hlt5 bx
        go_wp2
        go_roundg (x.items.length - (i + 1))
        case measure => omega
        case rel => exact ⟨i + 1, _, _, by go_num, by omega, I6⟩
    · have hall : i = x.items.length := by omega
      subst hall
      go_wp2
      go_ret
      exact ⟨_, rfl, HI.out.whole (mov_enum _) (by omega), HI.out.grown, HI.out.map⟩
end Go.Proofs.YthdnkcofcbinhaaGreatDoor
