/- The readers of fields: scalars. -/
import Derived.Test.YthdnkcofcbinhaaGreatDoorGd3J
import Derived.Test.YthdnkcofcbinhaaGreatDoorGnJ
import Derived.Test.YthdnkcofcbinhaaGreatDoorPf2J
import Derived.Test.YthdnkcofcbinhaaGreatDoorScJ
set_option linter.unusedVariables false
set_option linter.unusedSimpArgs false
namespace Go.Proofs.YthdnkcofcbinhaaGreatDoor
open Go.RowKit

theorem NodeOf.scalar {S : Nat → Prop} {w : World} {D : Nat} {x : Dat} {n : Nat} (h : NodeOf S w (D + 1) x n) (h4 : x.kind ≠ 4) (h5 : x.kind ≠ 5) : S n ∧ ∃ tag val, ScalarOf x tag val ∧ w.heap[n]? = some (nodeBlk 8 tag val (.slice none 0 0)) := by
  obtain ⟨hs, ⟨tag, val, h1, h2⟩ | ⟨h1, _⟩ | ⟨h1, _⟩⟩ := h
  · exact ⟨hs, tag, val, h1, h2⟩
  · exact absurd h1 h4
  · exact absurd h1 h5
theorem ScalarOf.text {x : Dat} {tag val : ByteArray} (h : ScalarOf x tag val) (hk : x.kind = 3) : tag = tStr ∧ val = x.text := by
  rcases h with h | h | h | h | h <;> first | exact h.2 | (have := h.1; omega)
theorem ScalarOf.bool {x : Dat} {tag val : ByteArray} (h : ScalarOf x tag val) (hk : x.kind = 1) : tag = tBool ∧ val = (if x.num == 1 then bTrue else bFalse) := by
  rcases h with h | h | h | h | h <;> first | exact h.2 | (have := h.1; omega)
theorem ScalarOf.int {x : Dat} {tag val : ByteArray} (h : ScalarOf x tag val) (hk : x.kind = 2) : tag = tInt ∧ val = intText x.num := by
  rcases h with h | h | h | h | h <;> first | exact h.2 | (have := h.1; omega)
theorem ScalarOf.quarter {x : Dat} {tag val : ByteArray} (h : ScalarOf x tag val) (hk : x.kind = 6) : tag = tFloat ∧ val = quarterText x.num := by
  rcases h with h | h | h | h | h <;> first | exact h.2 | (have := h.1; omega)
theorem MapOk.up {P : Program} {k : TypeId} {w w1 : World} {m : Nat} (h : MapOk P k w m) (hb : Below w.heap.size w w1) : MapOk P k w1 m := by
  obtain ⟨⟨es, c, h1, h2⟩, hf⟩ := h
  exact ⟨⟨es, c, blk_up h1 hb, h2⟩, hf.move (fun k hk => hb.block k (Nat.lt_trans hk (blk_lt h1)))⟩

set_option maxHeartbeats 1000000 in
theorem stringValue_any (B m q n D : Nat) (x : Dat) (w : World) (hk : x.kind = 3) (hN : NodeOf (fun k => k < B ∧ k ≠ m) w (D + 1) x n) (hm : MapOk Tryz.prog 9 w m) :
    Calls Tryz.prog 35 #[.pointer (some ⟨q, 0, none⟩), .pointer (some ⟨n, 0, none⟩)] w (GivesField B m D 1 x w) := by
  obtain ⟨hs, tag, val, hsc, hh⟩ := hN.scalar (by omega) (by omega)
  obtain ⟨rfl, rfl⟩ := hsc.text hk
  have n0 : w.cell? ⟨n, 0, none⟩ = some (.int .u32 8) := (blk_cell hh 0).trans rfl
  have HH := Lib.hid hh
  have HS := Lib.hid hs
  have HM := Lib.hid hm
  clear hN hsc hh hk hs hm
  go_enter Tryz.func35, Tryz.ntmps35
  go_wp2
  go_ret
  exact ⟨_, rfl, show PtrTo _ _ _ _ from ⟨n, 3, rfl, .inl HS.out, (blk_cell HH.out 3).trans rfl⟩, grown_refl _ _, HM.out⟩

set_option maxHeartbeats 1000000 in
theorem boolValue_any (B m q n D : Nat) (x : Dat) (w : World) (hk : x.kind = 1) (hN : NodeOf (fun k => k < B ∧ k ≠ m) w (D + 1) x n) (hm : MapOk Tryz.prog 9 w m) :
    Calls Tryz.prog 37 #[.pointer (some ⟨q, 0, none⟩), .pointer (some ⟨n, 0, none⟩)] w (GivesField B m D 2 x w) := by
  obtain ⟨hs, tag, val, hsc, hh⟩ := hN.scalar (by omega) (by omega)
  obtain ⟨rfl, hval⟩ := hsc.bool hk
  have n0 : ∀ W : World, Below w.heap.size w W → W.cell? ⟨n, 0, none⟩ = some (.int .u32 8) := fun W hb => (blk_cell (blk_up hh hb) 0).trans rfl
  have n2 : ∀ W : World, Below w.heap.size w W → W.cell? ⟨n, 2, none⟩ = some (.string tBool) := fun W hb => (blk_cell (blk_up hh hb) 2).trans rfl
  have n3 : ∀ W : World, Below w.heap.size w W → W.cell? ⟨n, 3, none⟩ = some (.string val) := fun W hb => (blk_cell (blk_up hh hb) 3).trans rfl
  have HN0 := Lib.hid n0
  have HN2 := Lib.hid n2
  have HN3 := Lib.hid n3
  have HM := Lib.hid hm
  have HVAL := Lib.hid hval
  clear n0 n2 n3 hN hsc hh hk hs hm hval
  have m0 := HN0.out w (Below.refl _ _)
  have m2 := HN2.out w (Below.refl _ _)
  have m3 := HN3.out w (Below.refl _ _)
  have HP := Lib.hid (ParseBool_any (x.num == 1) w)
  rw [← HVAL.out] at HP
  unfold tBool at m2
  go_enter Tryz.func37, Tryz.ntmps37
  go_wp2_with fail
  go_at_call 54
  refine HP.out.mono ?_
  rintro e w1 ⟨rfl, rfl⟩
  go_wp2
  go_ret
  have hb := up_alloc (Below.refl w.heap.size w) (.cells #[.bool (x.num == 1)] 4)
  exact ⟨_, rfl, show PtrTo _ _ _ _ from ⟨w.heap.size, 0, rfl, .inr ⟨Nat.le_refl _, by simp⟩, (blk_cell (blk_new w _) 0).trans rfl⟩, grown_below _ hb, HM.out.up hb⟩

set_option maxHeartbeats 1000000 in
theorem intValue_any (B m q n D : Nat) (x : Dat) (w : World) (hk : x.kind = 2) (h0 : -1000000000 < x.num) (h1 : x.num < 1000000000) (hN : NodeOf (fun k => k < B ∧ k ≠ m) w (D + 1) x n) (hm : MapOk Tryz.prog 9 w m) :
    Calls Tryz.prog 38 #[.pointer (some ⟨q, 0, none⟩), .pointer (some ⟨n, 0, none⟩)] w (GivesField B m D 4 x w) := by
  obtain ⟨hs, tag, val, hsc, hh⟩ := hN.scalar (by omega) (by omega)
  obtain ⟨rfl, hval⟩ := hsc.int hk
  have n0 : ∀ W : World, Below w.heap.size w W → W.cell? ⟨n, 0, none⟩ = some (.int .u32 8) := fun W hb => (blk_cell (blk_up hh hb) 0).trans rfl
  have n2 : ∀ W : World, Below w.heap.size w W → W.cell? ⟨n, 2, none⟩ = some (.string tInt) := fun W hb => (blk_cell (blk_up hh hb) 2).trans rfl
  have n3 : ∀ W : World, Below w.heap.size w W → W.cell? ⟨n, 3, none⟩ = some (.string val) := fun W hb => (blk_cell (blk_up hh hb) 3).trans rfl
  have HN0 := Lib.hid n0
  have HN2 := Lib.hid n2
  have HN3 := Lib.hid n3
  have HM := Lib.hid hm
  have HVAL := Lib.hid hval
  clear n0 n2 n3 hN hsc hh hk hs hm hval
  have m0 := HN0.out w (Below.refl _ _)
  have m2 := HN2.out w (Below.refl _ _)
  have m3 := HN3.out w (Below.refl _ _)
  have HP := Lib.hid (ParseInt_any x.num w h0 h1)
  rw [← HVAL.out] at HP
  unfold tInt at m2
  go_enter Tryz.func38, Tryz.ntmps38
  go_wp2_with fail
  go_at_call 53
  refine HP.out.mono ?_
  rintro e w1 ⟨rfl, hb1⟩
  have HB1 := Lib.hid hb1
  clear hb1
  go_wp2
  go_ret
  have hb := up_alloc HB1.out (.cells #[.int .i64 x.num] 2)
  exact ⟨_, rfl, show PtrTo _ _ _ _ from ⟨w1.heap.size, 0, rfl, .inr ⟨HB1.out.size, by simp⟩, (blk_cell (blk_new w1 _) 0).trans rfl⟩, grown_below _ hb, HM.out.up hb⟩

set_option maxHeartbeats 1000000 in
theorem numberValue_any (B m q n D : Nat) (x : Dat) (w : World) (hk : x.kind = 2 ∨ x.kind = 6) (h0 : -1000000000 < x.num) (h1 : x.num < 1000000000) (h6 : x.kind = 6 → x.num.tmod 4 ≠ 0) (hN : NodeOf (fun k => k < B ∧ k ≠ m) w (D + 1) x n) (hm : MapOk Tryz.prog 9 w m) :
    Calls Tryz.prog 36 #[.pointer (some ⟨q, 0, none⟩), .pointer (some ⟨n, 0, none⟩)] w (GivesField B m D 3 x w) := by
  rcases hk with hk | hk
  · skip
    obtain ⟨hs, tag, val, hsc, hh⟩ := hN.scalar (by omega) (by omega)
    obtain ⟨rfl, hval⟩ := hsc.int hk
    have n0 : ∀ W : World, Below w.heap.size w W → W.cell? ⟨n, 0, none⟩ = some (.int .u32 8) := fun W hb => (blk_cell (blk_up hh hb) 0).trans rfl
    have n2 : ∀ W : World, Below w.heap.size w W → W.cell? ⟨n, 2, none⟩ = some (.string tInt) := fun W hb => (blk_cell (blk_up hh hb) 2).trans rfl
    have n3 : ∀ W : World, Below w.heap.size w W → W.cell? ⟨n, 3, none⟩ = some (.string val) := fun W hb => (blk_cell (blk_up hh hb) 3).trans rfl
    have HN0 := Lib.hid n0
    have HN2 := Lib.hid n2
    have HN3 := Lib.hid n3
    have HM := Lib.hid hm
    have HVAL := Lib.hid hval
    clear n0 n2 n3 hN hsc hh hk hs hm hval
    have m0 : ∀ o, (w.alloc o).cell? ⟨n, 0, none⟩ = some (.int .u32 8) := fun o => HN0.out _ (up_alloc (Below.refl _ _) _)
    have m2 : ∀ o, (w.alloc o).cell? ⟨n, 2, none⟩ = some (.string tInt) := fun o => HN2.out _ (up_alloc (Below.refl _ _) _)
    have m3 : ∀ o, (w.alloc o).cell? ⟨n, 3, none⟩ = some (.string val) := fun o => HN3.out _ (up_alloc (Below.refl _ _) _)
    have HP := Lib.hid (fun W => ParseInt_any x.num W h0 h1)
    rw [← HVAL.out] at HP
    unfold tInt at m2
    go_enter Tryz.func36, Tryz.ntmps36
    go_wp2_with fail
    go_at_call 53
    refine (HP.out _).mono ?_
    rintro e w1 ⟨rfl, hb1⟩
    have HB1 := Lib.hid (up_trans (up_alloc (Below.refl w.heap.size w) _) hb1)
    have HX := Lib.hid (blk_up (blk_new w _) hb1)
    have hz : w.heap.size < w1.heap.size := by have := hb1.size; simp at this; omega
    have x0 : ∀ o, (w1.alloc o).cell? ⟨w.heap.size, 0, none⟩ = some (.pointer none) := fun o => (blk_cell (blk_up HX.out (up_alloc (Below.refl _ _) o)) 0).trans rfl
    have x0' : ∀ o, (w1.alloc o).frozen? ⟨w.heap.size, 0, none⟩ = false := fun o => blk_frozen (blk_up HX.out (up_alloc (Below.refl _ _) o)) 0
    clear hb1 m0 m2 m3
    go_wp2
    go_ret
    have hb : Below w.heap.size w ((w1.setCell ⟨w.heap.size, 0, none⟩ (.pointer (some ⟨w1.heap.size, 0, none⟩))).alloc (.cells #[.int .i64 x.num] 2)) := up_alloc (Below.setCell HB1.out (Nat.le_refl _) _) _
    exact ⟨_, rfl, show ∃ a, _ = _ from ⟨_, rfl⟩, grown_below _ hb, HM.out.up hb⟩
  · skip
    have HFT := Lib.hid hm.2
    have HML : Hid (m < w.heap.size) := Lib.hid (let ⟨_, _, h, _⟩ := hm.1; blk_lt h)
    have h6' := h6 hk
    clear h6
    obtain ⟨hs, tag, val, hsc, hh⟩ := hN.scalar (by omega) (by omega)
    obtain ⟨rfl, hval⟩ := hsc.quarter hk
    have n0 : ∀ W : World, Below w.heap.size w W → W.cell? ⟨n, 0, none⟩ = some (.int .u32 8) := fun W hb => (blk_cell (blk_up hh hb) 0).trans rfl
    have n2 : ∀ W : World, Below w.heap.size w W → W.cell? ⟨n, 2, none⟩ = some (.string tFloat) := fun W hb => (blk_cell (blk_up hh hb) 2).trans rfl
    have n3 : ∀ W : World, Below w.heap.size w W → W.cell? ⟨n, 3, none⟩ = some (.string val) := fun W hb => (blk_cell (blk_up hh hb) 3).trans rfl
    have HN0 := Lib.hid n0
    have HN2 := Lib.hid n2
    have HN3 := Lib.hid n3
    have HM := Lib.hid hm
    have HVAL := Lib.hid hval
    clear n0 n2 n3 hN hsc hh hk hs hm hval
    have m0 : ∀ o, (w.alloc o).cell? ⟨n, 0, none⟩ = some (.int .u32 8) := fun o => HN0.out _ (up_alloc (Below.refl _ _) _)
    have m2 : ∀ o, (w.alloc o).cell? ⟨n, 2, none⟩ = some (.string tFloat) := fun o => HN2.out _ (up_alloc (Below.refl _ _) _)
    have m3 : ∀ o, (w.alloc o).cell? ⟨n, 3, none⟩ = some (.string val) := fun o => HN3.out _ (up_alloc (Below.refl _ _) _)
    have HP := Lib.hid (fun W (hb : Below w.heap.size w W) => ParseFloat_any x.num W h0 h1 h6' m (HFT.out.move (fun k hk => hb.block k (Nat.lt_trans hk HML.out))))
    rw [← HVAL.out] at HP
    unfold tFloat at m2
    go_enter Tryz.func36, Tryz.ntmps36
    go_wp2_with fail
    go_at_call 52
    refine (HP.out _ (up_alloc (Below.refl _ _) _)).mono ?_
    rintro e w1 ⟨⟨f, rfl⟩, hb1⟩
    have HB1 := Lib.hid (up_trans (up_alloc (Below.refl w.heap.size w) _) hb1)
    have HX := Lib.hid (blk_up (blk_new w _) hb1)
    have hz : w.heap.size < w1.heap.size := by have := hb1.size; simp at this; omega
    have x0 : ∀ o, (w1.alloc o).cell? ⟨w.heap.size, 1, none⟩ = some (.pointer none) := fun o => (blk_cell (blk_up HX.out (up_alloc (Below.refl _ _) o)) 1).trans rfl
    have x0' : ∀ o, (w1.alloc o).frozen? ⟨w.heap.size, 1, none⟩ = false := fun o => blk_frozen (blk_up HX.out (up_alloc (Below.refl _ _) o)) 1
    clear hb1 m0 m2 m3
    have hsf : ∀ (a : Addr) (W : World), (Go.store a (.float .f64 f)).run Tryz.prog W = Go.stored Tryz.prog W a (.float .f64 f) .plain := fun a W => Go.run_store _ _ _ _ _ rfl
    go_wp2
    go_ret
    have hb : Below w.heap.size w ((w1.setCell ⟨w.heap.size, 1, none⟩ (.pointer (some ⟨w1.heap.size, 0, none⟩))).alloc (.cells #[.float .f64 f] 90)) := up_alloc (Below.setCell HB1.out (Nat.le_refl _) _) _
    exact ⟨_, rfl, show ∃ a, _ = _ from ⟨_, rfl⟩, grown_below _ hb, HM.out.up hb⟩
end Go.Proofs.YthdnkcofcbinhaaGreatDoor
