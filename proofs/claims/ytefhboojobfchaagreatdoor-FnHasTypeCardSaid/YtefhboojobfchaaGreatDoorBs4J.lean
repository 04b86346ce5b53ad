/- The readers of fields: maps of schemas. -/
import Derived.Test.YtefhboojobfchaaGreatDoorBs3J
set_option linter.unusedVariables false
set_option linter.unusedSimpArgs false
namespace Go.Proofs.YtefhboojobfchaaGreatDoor
open Go.RowKit

theorem blk_new2 (w : World) (o1 o2 : Obj) : ((w.alloc o1).alloc o2).heap[w.heap.size + 1]? = some o2 := by
  have h := blk_new (w.alloc o1) o2
  have e : (w.alloc o1).heap.size = w.heap.size + 1 := by simp
  rwa [e] at h
/-- A key's node. -/
theorem key_cells {S : Nat → Prop} {w : World} {k : Nat} {s : ByteArray} (h : w.heap[k]? = some (nodeBlk 8 tStr s (.slice none 0 0))) : w.cell? ⟨k, 3, none⟩ = some (.string s) := (blk_cell h 3).trans rfl

set_option maxRecDepth 100000 in
set_option maxHeartbeats 4000000 in
theorem mapOfSchemas_any (B m q n D : Nat) (x : Dat) (w : World) (hB : B ≤ w.heap.size) (hmB : m < B) (hk : x.kind = 5) (h60 : x.items.length ≤ 60) (ih : ∀ E, E < D → ReadsSchema B m E) (hp : Plain D x) (hsh : ∀ i (h : i < x.items.length), x.items[i].kind = 5 ∧ IsShp x.items[i])
    (hN : NodeOf (SB B m) w (D + 1) x n) (hm : MapOk Tryz.prog 9 w m) (hqm : q ≠ m) (hq : w.cell? ⟨q, 0, none⟩ = some (.map (some m))) :
    Calls Tryz.prog 34 #[.pointer (some ⟨q, 0, none⟩), .pointer (some ⟨n, 0, none⟩)] w (GivesField B m (D + 1) 9 x w) := by
  obtain ⟨hs, ⟨tag, val, h1, _⟩ | ⟨h1, _⟩ | ⟨_, hkl, A, c, hh, hit⟩⟩ := hN
  · exfalso
    rcases h1 with h | h | h | h | h <;> · have := h.1; omega
  · omega
  have n0 : w.cell? ⟨n, 0, none⟩ = some (.int .u32 4) := (blk_cell hh 0).trans rfl
  have HH := Lib.hid hh
  have HIT := Lib.hid hit
  have HS := Lib.hid hs
  have HP := Lib.hid hp
  have HIH := Lib.hid ih
  have HSH := Lib.hid hsh
  have HM := Lib.hid hm
  have HQ := Lib.hid hq
  have HQM := Lib.hid hqm
  have HKL := Lib.hid hkl
  obtain ⟨i0, hi0, hz0, hzz1, hzz2⟩ := info_parts info_pn
  have hmk := make_pn
  clear hit hs hh hp ih hsh hm hq hqm hkl
  go_enter Tryz.func34, Tryz.ntmps34
  go_wp2
  clear n0 hmk
  go_loopg [6] x.items.length (fun gk v6 wr => ∃ (i j : Nat) (cv : Value) (css : List (List Value)), v6 = .int .i64 j ∧ Hid (j = 2 * i) ∧ i + gk = x.items.length ∧ Hid (PBox w B m 99 100 1 (fun S w j us => NamedAt S w (Sch S w (D + 1)) x j us) i cv css wr))
  case atStart => exact ⟨0, 0, _, [], rfl, Lib.hid rfl, by omega, Lib.hid (PBox.start HM.out)⟩
  case round =>
    obtain ⟨i, j, cv, css, rfl, HJ, hi, HI⟩ := hrel
    have hN6 := (blk_cell (grown_blk HI.out.grown HS.out.2 HH.out) 6).trans rfl
    obtain ⟨N, hNN⟩ : ∃ N, 2 * x.items.length = N := ⟨_, rfl⟩
    have HNN := Lib.hid hNN
    have n6 : wr.cell? ⟨n, 6, none⟩ = some (.slice A N c) := by rw [← hNN]; exact hN6
    have hz := HI.out.size
    clear hN6 hNN
    by_cases hlt : i < x.items.length
    · have hki : i < x.keys.length := by have := HKL.out; omega
      obtain ⟨g, k, nn, hA, hSg, hc0, hc1, hSk, hkk, hkid⟩ := HIT.out i hlt hki
      subst hA
      have hj2 := HJ.out
      have hnn := HNN.out
      have j1 : (j : Int) < (N : Int) := by omega
      have j2 : (j : Int) + 1 < (N : Int) := by omega
      have j3 : (j : Int) ≤ 120 := by omega
      have k0 : wr.cell? ⟨g, j, none⟩ = some (.pointer (some ⟨k, 0, none⟩)) := by rw [hj2]; exact grown_cell HI.out.grown hSg.2 hc0
      have k1 : wr.cell? ⟨g, j + 1, none⟩ = some (.pointer (some ⟨nn, 0, none⟩)) := by rw [hj2]; exact grown_cell HI.out.grown hSg.2 hc1
      have k3 : wr.cell? ⟨k, 3, none⟩ = some (.string x.keys[i]) := (blk_cell (grown_blk HI.out.grown hSk.2 hkk) 3).trans rfl
      obtain ⟨key, hkey⟩ : ∃ key, x.keys[i] = key := ⟨_, rfl⟩
      rw [hkey] at k3
      have HKEY := Lib.hid hkey
      have hkid' := hkid.grown HI.out.grown hB
      have hq0 := grown_cell HI.out.grown HQM.out HQ.out
      have HX := Lib.hid (kid_reads HIH.out HP.out hlt (HSH.out i hlt).2 (by omega) HI.out.map hkid' (HP.out.item hlt))
      clear hSg hc0 hc1 hkid hkid' hkk hSk hkey hj2 hnn
      go_wp2_with fail
      go_at_call 19
      refine HX.out.mono ?_
      rintro e w4 ⟨b4, rfl, hs4, hg4, hm4⟩
      have HS4 := Lib.hid hs4
      have HG4 : Hid (∀ o, wr.grownBy (w4.alloc o) (some m)) := Lib.hid (fun o => grown_trans hg4 (grown_below _ (up_alloc (Below.refl _ _) o)))
      have HM4 : Hid (∀ o, MapOk Tryz.prog 9 (w4.alloc o) m) := Lib.hid (fun o => hm4.up (up_alloc (Below.refl _ _) o))
      have I4 := Lib.hid (HI.out.keep (mov_named _ _) hB hmB (HG4.out (.cells #[.string key, .pointer (some ⟨b4, 0, none⟩)] 102)) (HM4.out _))
      have bx0 := (blk_cell I4.out.box 0).trans rfl
      have hzw : wr.heap.size ≤ w4.heap.size := hg4.size
      have hz4 : w.heap.size + 1 < w4.heap.size := by omega
      have bx : w4.cell? ⟨w.heap.size + 1, 0, none⟩ = some cv := by
        have h := (blk_cell (HI.out.keep (mov_named _ _) hB hmB hg4 hm4).box 0).trans rfl
        exact h
      clear hs4 hg4 hm4 k0 k1 k3 n6 hq0 bx0
      go_wp2_with (first
        | (at_builtin
           refine wpList_append_lies _ rfl (.tmp 53) (.tmp 55) 99 rfl w.heap.size 100 i0 _ 1 8 Tryz.underlying99 hi0 hz0 hzz1 hzz2 rfl (by omega) _ i css.flatten rfl ((I4.out.row.own).alloc _)
             ⟨w4.heap.size + 1, 0, none⟩ 1 1 [.pointer (some ⟨w4.heap.size, 0, none⟩)] rfl rfl (World.news_of_block (cs := #[.pointer (some ⟨w4.heap.size, 0, none⟩)]) (t := 100) (fr := (0, 0)) (blk_new2 w4 _ _)) (by simp [Value.oneCell']) (by omega) (by unfold maxLen; omega) (by omega) (by simp; omega) (w4.heap.size + 2) (by simp) ?_))
      intro gg cap w5 hown5 hgrow5 hat5 hlt5
      have ez : (w4.alloc (.cells #[.string key, .pointer (some ⟨b4, 0, none⟩)] 102)).heap.size = w4.heap.size + 1 := by simp
      have I6 := Lib.hid (HI.out.next (cs := [.pointer (some ⟨w4.heap.size, 0, none⟩)]) (mov_named _ _) hB hmB (HG4.out (.cells #[.string key, .pointer (some ⟨b4, 0, none⟩)] 102)) (HM4.out _)
        ⟨hlt, hki, w4.heap.size, b4, rfl, .inr ⟨hzw, by omega⟩, by rw [HKEY.out]; exact blk_new w4 _, Sch.move (fun k hk => (up_alloc (Below.refl w4.heap.size w4) _).block k (SN_lt (by omega) hk)) (fun k hk => SN_up (by omega) hk) _ _ _ HS4.out⟩ rfl hown5 hgrow5 (by rw [ez]; exact hat5))
      have N5 := Lib.hid ((hgrow5.block (w.heap.size + 1) (by simp; omega) (fun e => I4.out.row.nbx e.symm)).trans (blk_up I4.out.box (up_alloc (Below.refl _ _) _)))
      have b5 : w5.cell? ⟨w.heap.size + 1, 0, none⟩ = some cv := (blk_cell N5.out 0).trans rfl
      have b5' : w5.frozen? ⟨w.heap.size + 1, 0, none⟩ = false := blk_frozen N5.out 0
      clear hown5 hgrow5 hat5 hlt5 bx
      go_wp2
      go_roundg (x.items.length - (i + 1))
      case measure => omega
      case rel => exact ⟨i + 1, j + 2, _, _, by go_num, Lib.hid (by have := HJ.out; omega), by omega, I6⟩
    · have hall : i = x.items.length := by omega
      have j1 : ¬ (j : Int) < (N : Int) := by have := HJ.out; have := HNN.out; omega
      subst hall
      go_wp2
      go_ret
      exact ⟨_, rfl, HI.out.whole (mov_named _ _) (by omega), HI.out.grown, HI.out.map⟩
end Go.Proofs.YtefhboojobfchaaGreatDoor
