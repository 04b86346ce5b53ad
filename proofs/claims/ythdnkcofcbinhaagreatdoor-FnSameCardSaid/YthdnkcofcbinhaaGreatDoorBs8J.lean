/- The readers of fields: dependencies. -/
import Derived.Test.YthdnkcofcbinhaaGreatDoorBs5J
set_option linter.unusedVariables false
set_option linter.unusedSimpArgs false
namespace Go.Proofs.YthdnkcofcbinhaaGreatDoor
open Go.RowKit

theorem info_pd : (Tryz.prog.info? 112).map (fun i => (i.zero, i.size, i.bytes)) = some (some (.pointer none), 1, 8) := by kernel_rfl
theorem make_pd : ∀ w : World, (Instr.makeSlice 108 (.int .i64 0) (.int .i64 0)).run Tryz.prog w = .ok (.slice (some ⟨w.heap.size, 0, none⟩) 0 0) (w.alloc (.cells #[] 112)) := fun _ => by kernel_rfl
theorem mov_depend (x : Dat) : QMov (fun S w j us => DependAt S w x j us) := fun S T w w1 j cs hb hT h => h.move hb hT
theorem blk_new3 (w : World) (o1 o2 o3 : Obj) : (((w.alloc o1).alloc o2).alloc o3).heap[w.heap.size + 2]? = some o3 := by
  have h := blk_new ((w.alloc o1).alloc o2) o3
  have e : ((w.alloc o1).alloc o2).heap.size = w.heap.size + 2 := by simp
  rwa [e] at h
/-- A list's node. -/
theorem NodeOf.list {S : Nat → Prop} {w : World} {D : Nat} {x : Dat} {n : Nat} (h : NodeOf S w D x n) (hk : x.kind = 4) : S n ∧ ∃ E A c, D = E + 1 ∧ w.heap[n]? = some (nodeBlk 2 tSeq ⟨#[]⟩ (.slice A x.items.length c)) ∧
      ∀ i (h : i < x.items.length), ∃ g k, A = some ⟨g, 0, none⟩ ∧ S g ∧ w.cell? ⟨g, i, none⟩ = some (.pointer (some ⟨k, 0, none⟩)) ∧ NodeOf S w E x.items[i] k := by
  cases D with
  | zero => exact h.elim
  | succ D =>
    obtain ⟨hs, ⟨tag, val, h1, _⟩ | ⟨_, A, c, h2, h3⟩ | ⟨h1, _⟩⟩ := h
    · exfalso
      rcases h1 with h | h | h | h | h <;> · have := h.1; omega
    · exact ⟨hs, D, A, c, rfl, h2, h3⟩
    · omega



set_option maxRecDepth 100000 in
set_option maxHeartbeats 8000000 in
theorem mapOfTexts_any (B m q n D : Nat) (x : Dat) (w : World) (hB : B ≤ w.heap.size) (hmB : m < B) (hk : x.kind = 5) (h60 : x.items.length ≤ 60) (hi60 : ∀ i (h : i < x.items.length), x.items[i].items.length ≤ 60)
    (hsh : ∀ i (h : i < x.items.length), x.items[i].kind = 4 ∧ ∀ p (h' : p < x.items[i].items.length), x.items[i].items[p].kind = 3)
    (hN : NodeOf (SB B m) w (D + 1) x n) (hm : MapOk Tryz.prog 9 w m) :
    Calls Tryz.prog 43 #[.pointer (some ⟨q, 0, none⟩), .pointer (some ⟨n, 0, none⟩)] w (GivesField B m (D + 1) 10 x w) := by
  obtain ⟨hs, ⟨tag, val, h1, _⟩ | ⟨h1, _⟩ | ⟨_, hkl, A, c, hh, hit⟩⟩ := hN
  · exfalso
    rcases h1 with h | h | h | h | h <;> · have := h.1; omega
  · omega
  have n0 : ∀ o1 o2, ((w.alloc o1).alloc o2).cell? ⟨n, 0, none⟩ = some (.int .u32 4) := fun o1 o2 => cell_up (up_alloc (up_alloc (Below.refl _ _) o1) o2) _ _ ((blk_cell hh 0).trans rfl)
  have HH := Lib.hid hh
  have HIT := Lib.hid hit
  have HS := Lib.hid hs
  have HSH := Lib.hid hsh
  have HM := Lib.hid hm
  have HKL := Lib.hid hkl
  have HI60 := Lib.hid hi60
  obtain ⟨i0, hi0, hz0, hzz1, hzz2⟩ := info_parts info_pd
  obtain ⟨is0, his0, his1, his2, his3⟩ := info_parts info_str
  have hmk := make_pd
  have hmk2 := make_str
  clear hit hs hh hsh hm hkl hi60
  go_enter Tryz.func43, Tryz.ntmps43
  go_wp2
  clear n0
  go_loopg [6] x.items.length (fun gk v6 wr => ∃ (i j : Nat) (cv : Value) (css : List (List Value)), v6 = .int .i64 j ∧ Hid (j = 2 * i) ∧ i + gk = x.items.length ∧ Hid (PBox w B m 108 112 1 (fun S w j us => DependAt S w x j us) i cv css wr))
  case atStart => exact ⟨0, 0, _, [], rfl, Lib.hid rfl, by omega, Lib.hid (PBox.start HM.out)⟩
  case round =>
    obtain ⟨wo, hwo⟩ : ∃ wo : World, wo = wr := ⟨_, rfl⟩
    subst hwo
    obtain ⟨i, j, cv, css, rfl, HJ, hi, HI⟩ := hrel
    have hN6 := (blk_cell (grown_blk HI.out.grown HS.out.2 HH.out) 6).trans rfl
    obtain ⟨N, hNN⟩ : ∃ N, 2 * x.items.length = N := ⟨_, rfl⟩
    have HNN := Lib.hid hNN
    have n6 : wo.cell? ⟨n, 6, none⟩ = some (.slice A N c) := by rw [← hNN]; exact hN6
    have hz := HI.out.size
    clear hN6 hNN
    by_cases hlt : i < x.items.length
    · have hki : i < x.keys.length := by have := HKL.out; omega
      obtain ⟨g, k, nn, hA, hSg, hc0, hc1, hSk, hkk, hkid⟩ := HIT.out i hlt hki
      subst hA
      have hj2 := HJ.out
      have hnn := HNN.out
      have j1 : (j : Int) < (N : Int) := by omega
      have j2 : (j : Int) + 1 < (N : Int) := by omega
      have j3 : (j : Int) ≤ 120 := by omega
      have k0 : wo.cell? ⟨g, j, none⟩ = some (.pointer (some ⟨k, 0, none⟩)) := by rw [hj2]; exact grown_cell HI.out.grown hSg.2 hc0
      have k1 : wo.cell? ⟨g, j + 1, none⟩ = some (.pointer (some ⟨nn, 0, none⟩)) := by rw [hj2]; exact grown_cell HI.out.grown hSg.2 hc1
      have k3 : wo.cell? ⟨k, 3, none⟩ = some (.string x.keys[i]) := (blk_cell (grown_blk HI.out.grown hSk.2 hkk) 3).trans rfl
      obtain ⟨key, hkey⟩ : ∃ key, x.keys[i] = key := ⟨_, rfl⟩
      rw [hkey] at k3
      have HKEY := Lib.hid hkey
      obtain ⟨hSn, E, A2, c2, -, hh2, hit2⟩ := (hkid.grown HI.out.grown hB).list (HSH.out i hlt).1
      have hsh2 := (HSH.out i hlt).2
      have hy60 := HI60.out i hlt
      have pack : ∃ y, Hid (x.items[i] = y) ∧ wo.heap[nn]? = some (nodeBlk 2 tSeq ⟨#[]⟩ (.slice A2 y.items.length c2)) ∧ (∀ p (h : p < y.items.length), ∃ g k, A2 = some ⟨g, 0, none⟩ ∧ SB B m g ∧ wo.cell? ⟨g, p, none⟩ = some (.pointer (some ⟨k, 0, none⟩)) ∧ NodeOf (SB B m) wo E y.items[p] k) ∧
          (∀ p (h' : p < y.items.length), y.items[p].kind = 3) ∧ y.items.length ≤ 60 := ⟨_, Lib.hid rfl, hh2, hit2, hsh2, hy60⟩
      clear hh2 hit2 hsh2 hy60
      obtain ⟨y, HY, hh2, hit2, hsh2, hy60⟩ := pack
      have HIT2 := Lib.hid hit2
      have HSH2 := Lib.hid hsh2
      have HH2 := Lib.hid hh2
      have hB2 : B ≤ wo.heap.size := by omega
      have m0 : wo.cell? ⟨nn, 0, none⟩ = some (.int .u32 2) := (blk_cell hh2 0).trans rfl
      have m6 : ∀ o1 o2, ((wo.alloc o1).alloc o2).cell? ⟨nn, 6, none⟩ = some (.slice A2 y.items.length c2) := fun o1 o2 => cell_up (up_alloc (up_alloc (Below.refl _ _) o1) o2) _ _ ((blk_cell hh2 6).trans rfl)
      clear hSg hc0 hc1 hkid hkk hSk hkey hj2 hnn hit2 hsh2 hh2 hSn
      go_wp2
      clear m0 m6 k0 k1 k3 n6
      go_loopg [60] y.items.length (fun gk2 v60 wr => ∃ (p : Nat) (cv2 : Value) (css2 : List (List Value)), v60 = .int .i64 p ∧ p + gk2 = y.items.length ∧ Hid (PBox wo B m 22 9 1 (fun _ _ j us => TextAt y j us) p cv2 css2 wr))
      case atStart => exact ⟨0, _, [], rfl, by omega, Lib.hid (PBox.start HI.out.map)⟩
      case round =>
        obtain ⟨p, cv2, css2, rfl, hp2, HI2⟩ := hrel
        by_cases hlt2 : p < y.items.length
        · obtain ⟨g2, k2, hA2, hSg2, hcell2, hkid2⟩ := HIT2.out p hlt2
          subst hA2
          have hcell2' := grown_cell HI2.out.grown hSg2.2 hcell2
          obtain ⟨hSk, hk0, hk3⟩ := (hkid2.grown HI2.out.grown hB2).textCells (HSH2.out p hlt2)
          obtain ⟨txt, htxt⟩ : ∃ t, y.items[p].text = t := ⟨_, rfl⟩
          rw [htxt] at hk3
          have HTX := Lib.hid htxt
          have hz2 := HI2.out.size
          have p1 : (p : Int) < (y.items.length : Int) := by omega
          have p0' : (0 : Int) ≤ (p : Int) := by omega
          have HK3 := Lib.hid hk3
          have HKB : Hid (k2 < B) := Lib.hid hSk.1
          clear hSg2 hcell2 hkid2 htxt hSk hk3
          go_wp2
          clear hcell2' hk0
          refine AnyT.begin (L := 7) (n := 8) (S := fun w' =>
            w'.cell? ⟨wo.heap.size + 1, 0, none⟩ = some cv2 ∧ w'.cell? ⟨k2, 3, none⟩ = some (.string txt)
            ) (by kernel_rfl) rfl ?_
          have I1 := Lib.hid (HI2.out.keep (mov_text _) hB2 hmB (grown_below _ (up_drew (Below.refl _ _))) (HI2.out.map.up (up_drew (Below.refl _ _))))
          have S0 :
            wr.drew.cell? ⟨wo.heap.size + 1, 0, none⟩ = some cv2 ∧ wr.drew.cell? ⟨k2, 3, none⟩ = some (.string txt)
            := ⟨(blk_cell I1.out.box 0).trans rfl, HK3.out⟩
          generalize wr.drew = we at I1 S0 ⊢
          have hze := I1.out.size
          have HST : Hid (∀ W, Below we.heap.size we W →
            W.cell? ⟨wo.heap.size + 1, 0, none⟩ = some cv2 ∧ W.cell? ⟨k2, 3, none⟩ = some (.string txt)
            ) := Lib.hid (fun W hb => ⟨cell_up hb _ _ S0.1, cell_up hb _ _ S0.2⟩)
          refine AnyT.takeS (i := 0) (d := some 70) (v := ?_) rfl rfl (by kernel_rfl) (by kernel_rfl) (by kernel_rfl) (by kernel_rfl) (fun _ _ _ h => h) (by rfl) (by assumption) ?_ ?_
          rotate_left
          · intro W hSw
            try dsimp only at hSw
            go_simp
            with_reducible rfl
          try simp only [Act.put, List.setIfInBounds_toArray, List.set_cons_zero, List.set_cons_succ]
          refine AnyT.takeY (i := 1) (d := some 71) (v := ?_) rfl rfl (by kernel_rfl) (by kernel_rfl) (by kernel_rfl) (fun _ _ _ h => h) (by rfl) ?_ ?_
          rotate_left
          · intro W
            go_simp
            with_reducible rfl
          try simp only [Act.put, List.setIfInBounds_toArray, List.set_cons_zero, List.set_cons_succ]
          refine AnyT.takeY (i := 2) (d := some 72) (v := ?_) rfl rfl (by kernel_rfl) (by kernel_rfl) (by kernel_rfl) (fun _ _ _ h => h) (by rfl) ?_ ?_
          rotate_left
          · intro W
            go_simp
            with_reducible rfl
          try simp only [Act.put, List.setIfInBounds_toArray, List.set_cons_zero, List.set_cons_succ]
          refine AnyT.takeY (i := 3) (d := some 73) (v := ?_) rfl rfl (by kernel_rfl) (by kernel_rfl) (by kernel_rfl) (fun _ _ _ h => h) (by rfl) ?_ ?_
          rotate_left
          · intro W
            go_simp
            with_reducible rfl
          try simp only [Act.put, List.setIfInBounds_toArray, List.set_cons_zero, List.set_cons_succ]
          refine AnyT.takeS (i := 4) (d := some 74) (v := ?_) rfl rfl (by kernel_rfl) (by kernel_rfl) (by kernel_rfl) (by kernel_rfl) (fun _ _ _ h => h) (by rfl) (by assumption) ?_ ?_
          rotate_left
          · intro W hSw
            try dsimp only at hSw
            go_simp
            with_reducible rfl
          try simp only [Act.put, List.setIfInBounds_toArray, List.set_cons_zero, List.set_cons_succ]
          have HBK : Hid (k2 < we.heap.size) := Lib.hid (World.block_lt_of_cell? we _ S0.2)
          clear S0
          refine AnyT.one (i := 5) rfl (by kernel_rfl) (fun K' hK => ?_)
          go_simp
          refine hK.out _ _ (fun _ _ => HST.out _ (up_alloc (Below.refl _ _) _)) ?_
          clear hK K'
          try simp only [Act.put, List.setIfInBounds_toArray, List.set_cons_zero, List.set_cons_succ]
          refine AnyT.one (i := 6) rfl (by kernel_rfl) (fun K' hK => ?_)
          refine step_append_lies _ (by rfl) _ _ _ (by rfl) wo.heap.size 9 is0 _ 1 16 Tryz.underlying22 his0 his1 his2 his3 rfl (by omega) cv2 p css2.flatten (by rfl) ((I1.out.row.own).alloc _)
            ⟨we.heap.size, 0, none⟩ 1 1 [.string txt] (by rfl) (by rfl) (World.news_of_block (cs := #[.string txt]) (t := 9) (fr := (0, 0)) (heap_alloc_new we _)) (by simp [Value.oneCell'])
            (by omega) (by unfold maxLen; omega) (by omega) (by simp; omega) (we.heap.size + 1) (by simp) ?_
          intro gg cap w5 hown5 hgrow5 hat5 hlt5
          have I6 := Lib.hid (I1.out.next (cs := [.string txt]) (mov_text _) hB2 hmB (grown_refl _ _) I1.out.map ⟨hlt2, by rw [HTX.out]⟩ rfl hown5 hgrow5 hat5)
          have N5 := Lib.hid ((hgrow5.block (wo.heap.size + 1) (by simp; omega) (fun e => I1.out.row.nbx e.symm)).trans (blk_up I1.out.box (up_alloc (Below.refl _ _) _)))
          have S5 : Hid (
            w5.cell? ⟨wo.heap.size + 1, 0, none⟩ = some cv2 ∧ w5.cell? ⟨k2, 3, none⟩ = some (.string txt)
            ) := Lib.hid (by
              obtain ⟨q1, q2⟩ := HST.out _ (up_alloc (Below.refl _ _) (.cells #[.string txt] 9))
              refine ⟨(blk_cell N5.out 0).trans rfl, ?_⟩
              have hkl := I1.out.row.own.lt
              refine (World.cell?_of_block (a := ⟨k2, 3, none⟩) (hgrow5.block k2 (by simp; have := HBK.out; omega) (fun e => ?_))).trans q2
              have h1 := (hkl _ e.symm).1
              have h2 := HKB.out
              omega)
          have b5 : w5.cell? ⟨wo.heap.size + 1, 0, none⟩ = some cv2 := S5.out.1
          have b5' : w5.frozen? ⟨wo.heap.size + 1, 0, none⟩ = false := blk_frozen N5.out 0
          clear hown5 hgrow5 hat5 hlt5
          refine hK.out _ _ (fun _ _ => S5.out) ?_
          clear hK K'
          try simp only [Act.put, List.setIfInBounds_toArray, List.set_cons_zero, List.set_cons_succ]
          refine AnyT.one (i := 7) rfl (by kernel_rfl) (fun K' hK => ?_)
          go_simp
          refine hK.out _ _ (fun _ h => absurd rfl h) ?_
          clear hK K'
          refine AnyT.end (by kernel_rfl) ?_ _
          try simp only [Act.put, List.setIfInBounds_toArray, List.set_cons_zero, List.set_cons_succ]
          clear b5 b5' S5 HST N5
          go_wp2
          go_roundg (y.items.length - (p + 1))
          case measure => omega
          case rel => exact ⟨p + 1, _, _, by go_num, by omega, I6⟩
        · have hall : p = y.items.length := by omega
          subst hall
          have hz2 := HI2.out.size
          have Iq := Lib.hid (HI.out.keep (mov_depend _) hB hmB HI2.out.grown HI2.out.map)
          have bx : wr.cell? ⟨w.heap.size + 1, 0, none⟩ = some cv := (blk_cell Iq.out.box 0).trans rfl
          have hzr : w.heap.size + 1 < wr.heap.size := by omega
          have bx2 : ∀ o1 o2, ((wr.alloc o1).alloc o2).cell? ⟨w.heap.size + 1, 0, none⟩ = some cv := fun o1 o2 => cell_up (up_alloc (up_alloc (Below.refl _ _) o1) o2) _ _ bx
          have hb2 : Hid (∀ o1 o2, Below wr.heap.size wr ((wr.alloc o1).alloc o2)) := Lib.hid (fun o1 o2 => up_alloc (up_alloc (Below.refl _ _) _) _)
          have I4 := Lib.hid (Iq.out.keep (mov_depend _) hB hmB (grown_below _ (hb2.out (.cells #[.pointer none, .pointer (some ⟨wo.heap.size + 1, 0, none⟩)] 111) (.cells #[.string key, .pointer (some ⟨wr.heap.size, 0, none⟩)] 114))) (HI2.out.map.up (hb2.out _ _)))
          go_wp2_with (first
            | (at_builtin
               refine wpList_append_lies _ rfl (.tmp 87) (.tmp 89) 108 rfl w.heap.size 112 i0 _ 1 8 Tryz.underlying108 hi0 hz0 hzz1 hzz2 rfl (by omega) _ i css.flatten rfl ((I4.out.row.own).alloc _)
                 ⟨wr.heap.size + 2, 0, none⟩ 1 1 [.pointer (some ⟨wr.heap.size + 1, 0, none⟩)] rfl rfl (World.news_of_block (cs := #[.pointer (some ⟨wr.heap.size + 1, 0, none⟩)]) (t := 112) (fr := (0, 0)) (blk_new3 wr _ _ _)) (by simp [Value.oneCell']) (by omega) (by unfold maxLen; omega) (by omega) (by simp; omega) (wr.heap.size + 3) (by simp) ?_))
          intro gg cap w5 hown5 hgrow5 hat5 hlt5
          have ez : ∀ o1 o2, ((wr.alloc o1).alloc o2).heap.size = wr.heap.size + 2 := fun o1 o2 => by simp
          have hW := (HI2.out.whole (mov_text _) (by omega)).move (T := SN B m wo.heap.size (wr.heap.size + 2)) (w1 := (wr.alloc (.cells #[.pointer none, .pointer (some ⟨wo.heap.size + 1, 0, none⟩)] 111)).alloc (.cells #[.string key, .pointer (some ⟨wr.heap.size, 0, none⟩)] 114))
            (fun k hk => (hb2.out _ _).block k (SN_lt (by omega) hk)) (fun k hk => SN_up (by omega) hk) (P' := TextAt y) (fun j us h => h)
          have I6 := Lib.hid (HI.out.next (w1 := (wr.alloc (.cells #[.pointer none, .pointer (some ⟨wo.heap.size + 1, 0, none⟩)] 111)).alloc (.cells #[.string key, .pointer (some ⟨wr.heap.size, 0, none⟩)] 114)) (cs := [.pointer (some ⟨wr.heap.size + 1, 0, none⟩)]) (mov_depend _) hB hmB
            (grown_trans HI2.out.grown (grown_below _ (hb2.out _ _))) (HI2.out.map.up (hb2.out _ _))
            (by
              rw [ez]
              refine ⟨hlt, hki, wr.heap.size + 1, wr.heap.size, .pointer (some ⟨wo.heap.size + 1, 0, none⟩), rfl, .inr ⟨by omega, by omega⟩, by rw [HKEY.out]; exact blk_new2 wr _ _, .inr ⟨by omega, by omega⟩, blk_up (blk_new wr _) (up_alloc (Below.refl _ _) _), ?_⟩
              rw [HY.out]
              exact hW) rfl hown5 hgrow5 (by rw [ez]; exact hat5))
          have N5 := Lib.hid ((hgrow5.block (w.heap.size + 1) (by simp; omega) (fun e => I4.out.row.nbx e.symm)).trans (blk_up I4.out.box (up_alloc (Below.refl _ _) _)))
          have b5 : w5.cell? ⟨w.heap.size + 1, 0, none⟩ = some cv := (blk_cell N5.out 0).trans rfl
          have b5' : w5.frozen? ⟨w.heap.size + 1, 0, none⟩ = false := blk_frozen N5.out 0
          clear hown5 hgrow5 hat5 hlt5 bx bx2 hW
          go_wp2
          go_roundg (x.items.length - (i + 1))
          case measure => omega
          case rel => exact ⟨i + 1, j + 2, _, _, by go_num, Lib.hid (by have := HJ.out; omega), by omega, I6⟩
    · have hall : i = x.items.length := by omega
      have j1 : ¬ (j : Int) < (N : Int) := by have := HJ.out; have := HNN.out; omega
      subst hall
      go_wp2
      go_ret
      exact ⟨_, rfl, HI.out.whole (mov_depend _) (by omega), HI.out.grown, HI.out.map⟩
end Go.Proofs.YthdnkcofcbinhaaGreatDoor
