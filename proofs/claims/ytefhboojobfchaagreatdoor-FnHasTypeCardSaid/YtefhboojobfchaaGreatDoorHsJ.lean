/- The reference's Get, HasType. -/
import Derived.Test.YtefhboojobfchaaGreatDoorIs4J
import Derived.Test.YtefhboojobfchaaGreatDoorTyJ
import Derived.Laws.ResultCell
set_option linter.unusedVariables false
set_option linter.unusedSimpArgs false
namespace Go.Proofs.YtefhboojobfchaaGreatDoor
open Go.RowKit

theorem size_val : (Tryz.prog.info? 25).map (·.size) = some 5 := by kernel_rfl
/-- The five cells of a block, written anew. -/
theorem set5 {w : World} {r : Nat} {a0 a1 a2 a3 a4 : Value} {t : TypeId} (h : w.heap[r]? = some (.cells #[a0, a1, a2, a3, a4] t (0, 0))) (b0 b1 b2 b3 b4 : Value) :
    (((((w.setCell ⟨r, 0, none⟩ b0).setCell ⟨r, 1, none⟩ b1).setCell ⟨r, 2, none⟩ b2).setCell ⟨r, 3, none⟩ b3).setCell ⟨r, 4, none⟩ b4).heap[r]? = some (.cells #[b0, b1, b2, b3, b4] t (0, 0)) := by
  simp only [World.setCell, Array.getElem?_modify, if_true, h]
  rfl
theorem set5_below {w W : World} {B r : Nat} (hw : Below B w W) (h : B ≤ r) (b0 b1 b2 b3 b4 : Value) :
    Below B w (((((W.setCell ⟨r, 0, none⟩ b0).setCell ⟨r, 1, none⟩ b1).setCell ⟨r, 2, none⟩ b2).setCell ⟨r, 3, none⟩ b3).setCell ⟨r, 4, none⟩ b4) :=
  ((((hw.setCell h b0).setCell h b1).setCell h b2).setCell h b3).setCell h b4
/-- A Value and a truth value are given back. -/
theorem ret_val2 {fn : Func} {p u : Tmp} {R : Ending → World → Prop} {a : Act} {w : World} {r : Nat} {a0 a1 a2 a3 a4 : Value} (hf : fn.results = #[.cell p 25, .tmp u]) (hp : a.tmps.getD p undef = .pointer (some ⟨r, 0, none⟩)) (hd : a.defers = [])
    (hg : w.heap[r]? = some (.cells #[a0, a1, a2, a3, a4] 25 (0, 0))) (hR : R (.returned (.tuple #[.agg #[a0, a1, a2, a3, a4], a.tmps.getD u undef])) w) : bodyPost Tryz.prog fn R .ret a w := by
  refine bodyPost_ret ?_ hd hR
  rw [results_cell_tmp hf, hp]
  simp [asAddr, Result.andThen, run_loadVar_row w r 25 25 #[a0, a1, a2, a3, a4] (0, 0) _ hg Tryz.underlying25 rfl size_val]

def zero5 : List Value := [.int .i64 0, .int .i64 0, .string ⟨#[]⟩, .slice none 0 0, .slice none 0 0]
/-- What Get gives. -/
def GivesItem (v : Dat) (key : ByteArray) (w : World) (e : Ending) (w' : World) : Prop :=
  ∃ (b0 b1 b2 b3 b4 : Value) (r : Bool), e = .returned (.tuple #[.agg #[b0, b1, b2, b3, b4], .bool r]) ∧ Below w.heap.size w w' ∧
    ((∃ (j : Nat) (_ : j < v.keys.length) (h' : j < v.items.length), v.keys[j] = key ∧ VA w' v.items[j] [b0, b1, b2, b3, b4]) ∨ ((∀ (j : Nat) (_ : j < v.keys.length), v.keys[j] ≠ key) ∧ [b0, b1, b2, b3, b4] = zero5))

set_option maxHeartbeats 2000000 in
theorem Get_any (v : Dat) (key : ByteArray) (w : World) (cs : List Value) (hv : VA w v cs) (hkl : v.keys.length = v.items.length) : Calls Tryz.prog 13 #[.agg cs.toArray, .string key] w (GivesItem v key w) := by
  have HF := Lib.hid (fun W (hb : Below w.heap.size w W) => find_any v key W cs (hv.up hb))
  obtain ⟨ka, ia, kc, ic, rfl, ht, hk, hkc, hkm, hic, him, hit⟩ := hv.inv
  have HIT := Lib.hid hit
  have HKL := Lib.hid hkl
  clear hit hk hv hkl
  go_enter Tryz.func13, Tryz.ntmps13
  go_wp2_with fail
  go_at_call 17
  refine (HF.out _ (up_alloc (up_alloc (Below.refl _ _) _) _)).mono ?_
  rintro e w1 ⟨r, rfl, hr, hb⟩
  have HB1 := Lib.hid (up_trans (up_alloc (up_alloc (Below.refl w.heap.size w) _) _) hb)
  have HX1 := Lib.hid (blk_up (blk_up (blk_new w _) (up_alloc (Below.refl _ _) _)) hb)
  have HZ1 : Hid (w1.heap[w.heap.size + 1]? = some (.cells #[.int .i64 0, .int .i64 0, .string ⟨#[]⟩, .slice none 0 0, .slice none 0 0] 25 (0, 0))) := Lib.hid (by
    refine blk_up ?_ hb
    have h := blk_new (w.alloc (.cells #[.int .i64 v.kind, .int .i64 v.num, .string v.text, .slice ka v.keys.length kc, .slice ia v.items.length ic] 25)) (.cells #[.int .i64 0, .int .i64 0, .string ⟨#[]⟩, .slice none 0 0, .slice none 0 0] 25 (0, 0))
    simpa using h)
  clear hb
  have q0 : w1.cell? ⟨w.heap.size, 0, none⟩ = some (.int .i64 v.kind) := (blk_cell HX1.out 0).trans rfl
  have q1 : w1.cell? ⟨w.heap.size, 1, none⟩ = some (.int .i64 v.num) := (blk_cell HX1.out 1).trans rfl
  have q2 : w1.cell? ⟨w.heap.size, 2, none⟩ = some (.string v.text) := (blk_cell HX1.out 2).trans rfl
  have q3 : w1.cell? ⟨w.heap.size, 3, none⟩ = some (.slice ka v.keys.length kc) := (blk_cell HX1.out 3).trans rfl
  have q4 : w1.cell? ⟨w.heap.size, 4, none⟩ = some (.slice ia v.items.length ic) := (blk_cell HX1.out 4).trans rfl
  have r0 : w1.cell? ⟨w.heap.size + 1, 0, none⟩ = some (.int .i64 0) := (blk_cell HZ1.out 0).trans rfl
  have r1 : w1.cell? ⟨w.heap.size + 1, 1, none⟩ = some (.int .i64 0) := (blk_cell HZ1.out 1).trans rfl
  have r2 : w1.cell? ⟨w.heap.size + 1, 2, none⟩ = some (.string ⟨#[]⟩) := (blk_cell HZ1.out 2).trans rfl
  have r3 : w1.cell? ⟨w.heap.size + 1, 3, none⟩ = some (.slice none 0 0) := (blk_cell HZ1.out 3).trans rfl
  have r4 : w1.cell? ⟨w.heap.size + 1, 4, none⟩ = some (.slice none 0 0) := (blk_cell HZ1.out 4).trans rfl
  have p0 : w1.frozen? ⟨w.heap.size + 1, 0, none⟩ = false := blk_frozen HZ1.out 0
  have p1 : w1.frozen? ⟨w.heap.size + 1, 1, none⟩ = false := blk_frozen HZ1.out 1
  have p2 : w1.frozen? ⟨w.heap.size + 1, 2, none⟩ = false := blk_frozen HZ1.out 2
  have p3 : w1.frozen? ⟨w.heap.size + 1, 3, none⟩ = false := blk_frozen HZ1.out 3
  have p4 : w1.frozen? ⟨w.heap.size + 1, 4, none⟩ = false := blk_frozen HZ1.out 4
  rcases hr with ⟨rfl, hno⟩ | ⟨j, hj, rfl, hkey⟩
  · have HN := Lib.hid hno
    clear hno
    go_wp2
    refine ret_val2 rfl rfl rfl (set5 HZ1.out _ _ _ _ _) ?_
    exact ⟨_, _, _, _, _, false, rfl, set5_below HB1.out (by omega) _ _ _ _ _, .inr ⟨HN.out, rfl⟩⟩
  · have hj' : j < v.items.length := by rw [← HKL.out]; exact hj
    obtain ⟨b, o, ka', ia', kc', ic', hb, h0, h1, h2, h3, h4, hvi⟩ := HIT.out j hj'
    cases hb
    have HKEY := Lib.hid hkey
    have HVI := Lib.hid hvi
    have i0 := cell_up HB1.out _ _ h0
    have i1 := cell_up HB1.out _ _ h1
    have i2 := cell_up HB1.out _ _ h2
    have i3 := cell_up HB1.out _ _ h3
    have i4 := cell_up HB1.out _ _ h4
    clear hkey hvi h0 h1 h2 h3 h4
    go_wp2
    have hbF := set5_below (r := w.heap.size + 1) HB1.out (by omega) (.int .i64 v.items[j].kind) (.int .i64 v.items[j].num) (.string v.items[j].text) (.slice ka' v.items[j].keys.length kc') (.slice ia' v.items[j].items.length ic')
    refine ret_val2 rfl rfl rfl (set5 HZ1.out _ _ _ _ _) ?_
    exact ⟨_, _, _, _, _, true, rfl, hbF, .inl ⟨j, hj, hj', HKEY.out, HVI.out.up hbF⟩⟩
end Go.Proofs.YtefhboojobfchaaGreatDoor
