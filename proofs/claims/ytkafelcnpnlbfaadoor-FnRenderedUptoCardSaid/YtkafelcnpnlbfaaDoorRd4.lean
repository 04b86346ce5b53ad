/- The reader: values without parts. -/
import Derived.Test.YtkafelcnpnlbfaaDoorRd3
import Derived.Test.YtkafelcnpnlbfaaDoorRv
import Derived.Test.YtkafelcnpnlbfaaDoorSp3
namespace Go.Proofs.YtkafelcnpnlbfaaDoor
open Go.RowKit

theorem info_val : (Tryd.prog.info? 25).map (fun i => (i.zero, i.size, i.bytes)) = some (some (.agg #[.int .i64 0, .int .i64 0, .string ⟨#[]⟩, .slice none 0 0, .slice none 0 0]), 5, 80) := by kernel_rfl
theorem size_val : (Tryd.prog.info? 25).map (·.size) = some 5 := by kernel_rfl

/-- The five cells of a block, written anew. -/
theorem set5 {w : World} {r : Nat} {a0 a1 a2 a3 a4 : Value} {t : TypeId} (h : w.heap[r]? = some (.cells #[a0, a1, a2, a3, a4] t (0, 0))) (b0 b1 b2 b3 b4 : Value) :
    (((((w.setCell ⟨r, 0, none⟩ b0).setCell ⟨r, 1, none⟩ b1).setCell ⟨r, 2, none⟩ b2).setCell ⟨r, 3, none⟩ b3).setCell ⟨r, 4, none⟩ b4).heap[r]? = some (.cells #[b0, b1, b2, b3, b4] t (0, 0)) := by
  simp only [World.setCell, Array.getElem?_modify, if_true, h]
  rfl
theorem set5_far {w : World} {r k : Nat} (h : k ≠ r) (b0 b1 b2 b3 b4 : Value) :
    (((((w.setCell ⟨r, 0, none⟩ b0).setCell ⟨r, 1, none⟩ b1).setCell ⟨r, 2, none⟩ b2).setCell ⟨r, 3, none⟩ b3).setCell ⟨r, 4, none⟩ b4).heap[k]? = w.heap[k]? := by
  rw [Below.heap_setCell _ _ _ _ h, Below.heap_setCell _ _ _ _ h, Below.heap_setCell _ _ _ _ h, Below.heap_setCell _ _ _ _ h, Below.heap_setCell _ _ _ _ h]
theorem set5_below {w : World} {B r : Nat} (h : B ≤ r) (b0 b1 b2 b3 b4 : Value) :
    Below B w (((((w.setCell ⟨r, 0, none⟩ b0).setCell ⟨r, 1, none⟩ b1).setCell ⟨r, 2, none⟩ b2).setCell ⟨r, 3, none⟩ b3).setCell ⟨r, 4, none⟩ b4) :=
  (((((Below.refl B w).setCell h b0).setCell h b1).setCell h b2).setCell h b3).setCell h b4

theorem set5_size (w : World) (r : Nat) (b0 b1 b2 b3 b4 : Value) : (((((w.setCell ⟨r, 0, none⟩ b0).setCell ⟨r, 1, none⟩ b1).setCell ⟨r, 2, none⟩ b2).setCell ⟨r, 3, none⟩ b3).setCell ⟨r, 4, none⟩ b4).heap.size = w.heap.size := by simp [World.setCell]

/-- A method's Value is given back. -/
theorem ret_val {fn : Func} {p : Tmp} {R : Ending → World → Prop} {a : Act} {w : World} {r : Nat} {a0 a1 a2 a3 a4 : Value} (hf : fn.results = #[.cell p 25]) (hp : a.tmps.getD p undef = .pointer (some ⟨r, 0, none⟩)) (hd : a.defers = [])
    (hg : w.heap[r]? = some (.cells #[a0, a1, a2, a3, a4] 25 (0, 0))) (hR : R (.returned (.agg #[a0, a1, a2, a3, a4])) w) : bodyPost Tryd.prog fn R .ret a w :=
  bodyPost_ret (results_cell_row hf _ _ r 25 _ (0, 0) _ hp hg Tryd.underlying25 rfl size_val) hd hR

theorem text_val (t : ByteArray) (w : World) : Calls Tryd.prog 23 #[.string t] w fun e w' => e = .returned (.agg #[.int .i64 3, .int .i64 0, .string t, .slice none 0 0, .slice none 0 0]) ∧ Below w.heap.size w w' := by
  go_enter Tryd.func23, Tryd.ntmps23
  go_wp2
  refine ret_val rfl rfl rfl (blk_new w _) ?_
  exact ⟨rfl, up_alloc (Below.refl _ _) _⟩

/-- What the reader does of a Value at a depth. -/
def ReadsAt (E : Nat) : Prop := ∀ (v : Dat) (g : Nat) (s : ByteArray) (ind sp l : List UInt8) (w : World) (depth : Int), Plain E v → Prn v → (E : Int) + 1 ≤ depth → depth ≤ 100 → Blank sp → Blank ind → Rem w g s (sp ++ (tx (E + 1) ind v ++ l)) →
  Calls Tryd.prog 12 #[.pointer (some ⟨g, 0, none⟩), .int .i64 depth] w (GivesVal v g s l w)

theorem Rem.lt {w : World} {g : Nat} {s : ByteArray} {l : List UInt8} (h : Rem w g s l) : g < w.heap.size := by
  obtain ⟨_, _, _, h3, _⟩ := h
  exact blk_lt h3

theorem Rem.far {w w1 : World} {g : Nat} {s : ByteArray} {l : List UInt8} (h : Rem w g s l) (hk : w1.heap[g]? = w.heap[g]?) : Rem w1 g s l := by
  obtain ⟨p, h1, h2, h3, h4⟩ := h
  exact ⟨p, h1, h2, hk.trans h3, h4⟩

/-- What a method gives back whose Value lies in the block that it made first. -/
theorem give5 {v : Dat} {g : Nat} {s : ByteArray} {l : List UInt8} {w w2 : World} {b0 b1 b2 b3 b4 : Value} (hr : Rem w2 g s l) (hg : w.grownBy w2 (some g)) (hgl : g < w.heap.size)
    (hv : VA (onS w2 fun k => w.heap.size < k ∧ k < w2.heap.size) v [b0, b1, b2, b3, b4]) :
    GivesVal v g s l w (.returned (.agg #[b0, b1, b2, b3, b4]))
      (((((w2.setCell ⟨w.heap.size, 0, none⟩ b0).setCell ⟨w.heap.size, 1, none⟩ b1).setCell ⟨w.heap.size, 2, none⟩ b2).setCell ⟨w.heap.size, 3, none⟩ b3).setCell ⟨w.heap.size, 4, none⟩ b4) := by
  have hz := set5_size w2 w.heap.size b0 b1 b2 b3 b4
  have hb := set5_below (w := w2) (Nat.le_refl w.heap.size) b0 b1 b2 b3 b4
  have hf : ∀ k, k ≠ w.heap.size → _ := fun k hk => set5_far (w := w2) hk b0 b1 b2 b3 b4
  revert hz hb hf
  generalize (((((w2.setCell ⟨w.heap.size, 0, none⟩ b0).setCell ⟨w.heap.size, 1, none⟩ b1).setCell ⟨w.heap.size, 2, none⟩ b2).setCell ⟨w.heap.size, 3, none⟩ b3).setCell ⟨w.heap.size, 4, none⟩ b4) = w3
  intro hz hb hf
  exact ⟨[b0, b1, b2, b3, b4], rfl, hv.mono (onS_move (fun k hk => hf k (by omega)) (fun k hk => ⟨by omega, by omega⟩)), hr.far (hf g (by omega)),
    ⟨hb.os.trans hg.os, hb.tape.trans hg.tape, hb.output.trans hg.output, by have := hg.size; omega, fun k hk hn => (hf k (by omega)).trans (hg.block k hk hn)⟩⟩

set_option maxHeartbeats 4000000 in
theorem value_true (g : Nat) (s : ByteArray) (sp l : List UInt8) (w : World) (depth : Int) (h0 : 1 ≤ depth) (h1 : depth ≤ 100) (hsp : Blank sp) (hr : Rem w g s (sp ++ (116 :: ([114, 117, 101] ++ l)))) :
    Calls Tryd.prog 12 #[.pointer (some ⟨g, 0, none⟩), .int .i64 depth] w (GivesVal (.mk 1 1 ⟨#[]⟩ [] []) g s l w) := by
  have hgl := hr.lt
  have hd : (depth == 0) = false := by simp; omega
  have HP := Lib.hid (fun (W : World) (hb : Below w.heap.size w W) => peek_any g s sp ([114, 117, 101] ++ l) 116 W hsp (by decide) (hr.up hb))
  have HB := Lib.hid (fun (W : World) (hb : Below w.heap.size w W) => (hr.up hb).bad)
  have z2 : ∀ o, (w.alloc o).cell? ⟨g, 2, none⟩ = some (.bool false) := fun o => (HB.out _ (up_alloc (Below.refl _ _) o)).1
  clear hr hsp
  go_enter Tryd.func12, Tryd.ntmps12
  go_wp2_with fail
  go_at_call 19
  refine (HP.out _ (up_alloc (Below.refl _ _) _)).mono ?_
  rintro e w1 ⟨rfl, hr1, hg1⟩
  have hz1 : w.heap.size < w1.heap.size := by have := hg1.size; simp at this; omega
  have R0 : Hid (w1.heap[w.heap.size]? = some (.cells #[.int .i64 0, .int .i64 0, .string ⟨#[]⟩, .slice none 0 0, .slice none 0 0] 25 (0, 0))) := Lib.hid ((hg1.block _ (by simp) (by simp; omega)).trans (blk_new w _))
  have HR1 := Lib.hid hr1
  have HG1 := Lib.hid (grown_trans (grown_below (some g) (up_alloc (Below.refl w.heap.size w) _)) hg1)
  clear hr1 hg1
  have HW := Lib.hid (word_any g s bTrue l w1 (by decide) HR1.out)
  go_wp2_with fail
  go_at_call 25
  refine HW.out.mono ?_
  rintro e w2 ⟨rfl, hr2, hg2⟩
  have HR2 := Lib.hid hr2
  have R1 := Lib.hid ((hg2.block _ hz1 (by simp; omega)).trans R0.out)
  have HG2 := Lib.hid (grown_trans HG1.out hg2)
  clear hr2 hg2
  have q0 : w2.cell? ⟨w.heap.size, 0, none⟩ = some (.int .i64 0) := (blk_cell R1.out 0).trans rfl
  have q1 : w2.cell? ⟨w.heap.size, 1, none⟩ = some (.int .i64 0) := (blk_cell R1.out 1).trans rfl
  have q2 : w2.cell? ⟨w.heap.size, 2, none⟩ = some (.string ⟨#[]⟩) := (blk_cell R1.out 2).trans rfl
  have q3 : w2.cell? ⟨w.heap.size, 3, none⟩ = some (.slice none 0 0) := (blk_cell R1.out 3).trans rfl
  have q4 : w2.cell? ⟨w.heap.size, 4, none⟩ = some (.slice none 0 0) := (blk_cell R1.out 4).trans rfl
  have p0 : w2.frozen? ⟨w.heap.size, 0, none⟩ = false := blk_frozen R1.out 0
  have p1 : w2.frozen? ⟨w.heap.size, 1, none⟩ = false := blk_frozen R1.out 1
  have p2 : w2.frozen? ⟨w.heap.size, 2, none⟩ = false := blk_frozen R1.out 2
  have p3 : w2.frozen? ⟨w.heap.size, 3, none⟩ = false := blk_frozen R1.out 3
  have p4 : w2.frozen? ⟨w.heap.size, 4, none⟩ = false := blk_frozen R1.out 4
  go_wp2
  refine ret_val rfl rfl rfl (set5 R1.out _ _ _ _ _) (give5 HR2.out HG2.out hgl (VA.plain _ _ _ _ (by decide)))

set_option maxHeartbeats 4000000 in
theorem value_false (g : Nat) (s : ByteArray) (sp l : List UInt8) (w : World) (depth : Int) (h0 : 1 ≤ depth) (h1 : depth ≤ 100) (hsp : Blank sp) (hr : Rem w g s (sp ++ (102 :: ([97, 108, 115, 101] ++ l)))) :
    Calls Tryd.prog 12 #[.pointer (some ⟨g, 0, none⟩), .int .i64 depth] w (GivesVal (.mk 1 0 ⟨#[]⟩ [] []) g s l w) := by
  have hgl := hr.lt
  have hd : (depth == 0) = false := by simp; omega
  have HP := Lib.hid (fun (W : World) (hb : Below w.heap.size w W) => peek_any g s sp ([97, 108, 115, 101] ++ l) 102 W hsp (by decide) (hr.up hb))
  have HB := Lib.hid (fun (W : World) (hb : Below w.heap.size w W) => (hr.up hb).bad)
  have z2 : ∀ o, (w.alloc o).cell? ⟨g, 2, none⟩ = some (.bool false) := fun o => (HB.out _ (up_alloc (Below.refl _ _) o)).1
  clear hr hsp
  go_enter Tryd.func12, Tryd.ntmps12
  go_wp2_with fail
  go_at_call 19
  refine (HP.out _ (up_alloc (Below.refl _ _) _)).mono ?_
  rintro e w1 ⟨rfl, hr1, hg1⟩
  have hz1 : w.heap.size < w1.heap.size := by have := hg1.size; simp at this; omega
  have R0 : Hid (w1.heap[w.heap.size]? = some (.cells #[.int .i64 0, .int .i64 0, .string ⟨#[]⟩, .slice none 0 0, .slice none 0 0] 25 (0, 0))) := Lib.hid ((hg1.block _ (by simp) (by simp; omega)).trans (blk_new w _))
  have HR1 := Lib.hid hr1
  have HG1 := Lib.hid (grown_trans (grown_below (some g) (up_alloc (Below.refl w.heap.size w) _)) hg1)
  clear hr1 hg1
  have HW := Lib.hid (word_any g s bFalse l w1 (by decide) HR1.out)
  go_wp2_with fail
  go_at_call 25
  refine HW.out.mono ?_
  rintro e w2 ⟨rfl, hr2, hg2⟩
  have HR2 := Lib.hid hr2
  have R1 := Lib.hid ((hg2.block _ hz1 (by simp; omega)).trans R0.out)
  have HG2 := Lib.hid (grown_trans HG1.out hg2)
  clear hr2 hg2
  have q0 : w2.cell? ⟨w.heap.size, 0, none⟩ = some (.int .i64 0) := (blk_cell R1.out 0).trans rfl
  have q1 : w2.cell? ⟨w.heap.size, 1, none⟩ = some (.int .i64 0) := (blk_cell R1.out 1).trans rfl
  have q2 : w2.cell? ⟨w.heap.size, 2, none⟩ = some (.string ⟨#[]⟩) := (blk_cell R1.out 2).trans rfl
  have q3 : w2.cell? ⟨w.heap.size, 3, none⟩ = some (.slice none 0 0) := (blk_cell R1.out 3).trans rfl
  have q4 : w2.cell? ⟨w.heap.size, 4, none⟩ = some (.slice none 0 0) := (blk_cell R1.out 4).trans rfl
  have p0 : w2.frozen? ⟨w.heap.size, 0, none⟩ = false := blk_frozen R1.out 0
  have p1 : w2.frozen? ⟨w.heap.size, 1, none⟩ = false := blk_frozen R1.out 1
  have p2 : w2.frozen? ⟨w.heap.size, 2, none⟩ = false := blk_frozen R1.out 2
  have p3 : w2.frozen? ⟨w.heap.size, 3, none⟩ = false := blk_frozen R1.out 3
  have p4 : w2.frozen? ⟨w.heap.size, 4, none⟩ = false := blk_frozen R1.out 4
  go_wp2
  refine ret_val rfl rfl rfl (set5 R1.out _ _ _ _ _) (give5 HR2.out HG2.out hgl (VA.plain _ _ _ _ (by decide)))

set_option maxHeartbeats 4000000 in
theorem value_text (g : Nat) (s : ByteArray) (sp l t : List UInt8) (w : World) (depth : Int) (h0 : 1 ≤ depth) (h1 : depth ≤ 100) (hsp : Blank sp) (hc : Clean t) (hl : t.length ≤ 1000) (hr : Rem w g s (sp ++ (34 :: (t ++ 34 :: l)))) :
    Calls Tryd.prog 12 #[.pointer (some ⟨g, 0, none⟩), .int .i64 depth] w (GivesVal (.mk 3 0 ⟨t.toArray⟩ [] []) g s l w) := by
  have HCL := Lib.hid hc
  clear hc
  have hgl := hr.lt
  have hd : (depth == 0) = false := by simp; omega
  have HP := Lib.hid (fun (W : World) (hb : Below w.heap.size w W) => peek_any g s sp (t ++ 34 :: l) 34 W hsp (by decide) (hr.up hb))
  have HB := Lib.hid (fun (W : World) (hb : Below w.heap.size w W) => (hr.up hb).bad)
  have z2 : ∀ o, (w.alloc o).cell? ⟨g, 2, none⟩ = some (.bool false) := fun o => (HB.out _ (up_alloc (Below.refl _ _) o)).1
  clear hr hsp
  go_enter Tryd.func12, Tryd.ntmps12
  go_wp2_with fail
  go_at_call 19
  refine (HP.out _ (up_alloc (Below.refl _ _) _)).mono ?_
  rintro e w1 ⟨rfl, hr1, hg1⟩
  have hz1 : w.heap.size < w1.heap.size := by have := hg1.size; simp at this; omega
  have R0 : Hid (w1.heap[w.heap.size]? = some (.cells #[.int .i64 0, .int .i64 0, .string ⟨#[]⟩, .slice none 0 0, .slice none 0 0] 25 (0, 0))) := Lib.hid ((hg1.block _ (by simp) (by simp; omega)).trans (blk_new w _))
  have HR1 := Lib.hid hr1
  have HG1 := Lib.hid (grown_trans (grown_below (some g) (up_alloc (Below.refl w.heap.size w) _)) hg1)
  clear hr1 hg1
  have HW := Lib.hid (text_any g s t l w1 HCL.out hl HR1.out)
  go_wp2_with fail
  go_at_call 24
  refine HW.out.mono ?_
  rintro e w2 ⟨rfl, hr2, hg2⟩
  have HR2 := Lib.hid hr2
  have hz2 : w.heap.size < w2.heap.size := Nat.lt_of_lt_of_le hz1 hg2.size
  have R1 := Lib.hid ((hg2.block _ hz1 (by simp; omega)).trans R0.out)
  have HG2 := Lib.hid (grown_trans HG1.out hg2)
  clear hr2 hg2
  go_wp2_with fail
  go_at_call 23
  refine (text_val _ _).mono ?_
  rintro e w3 ⟨rfl, hb3⟩
  have HR3 := Lib.hid (HR2.out.up hb3)
  have R2 := Lib.hid ((hb3.block _ hz2).trans R1.out)
  have HG3 := Lib.hid (grown_trans HG2.out (grown_below (some g) hb3))
  clear hb3
  have q0 : w3.cell? ⟨w.heap.size, 0, none⟩ = some (.int .i64 0) := (blk_cell R2.out 0).trans rfl
  have q1 : w3.cell? ⟨w.heap.size, 1, none⟩ = some (.int .i64 0) := (blk_cell R2.out 1).trans rfl
  have q2 : w3.cell? ⟨w.heap.size, 2, none⟩ = some (.string ⟨#[]⟩) := (blk_cell R2.out 2).trans rfl
  have q3 : w3.cell? ⟨w.heap.size, 3, none⟩ = some (.slice none 0 0) := (blk_cell R2.out 3).trans rfl
  have q4 : w3.cell? ⟨w.heap.size, 4, none⟩ = some (.slice none 0 0) := (blk_cell R2.out 4).trans rfl
  have p0 : w3.frozen? ⟨w.heap.size, 0, none⟩ = false := blk_frozen R2.out 0
  have p1 : w3.frozen? ⟨w.heap.size, 1, none⟩ = false := blk_frozen R2.out 1
  have p2 : w3.frozen? ⟨w.heap.size, 2, none⟩ = false := blk_frozen R2.out 2
  have p3 : w3.frozen? ⟨w.heap.size, 3, none⟩ = false := blk_frozen R2.out 3
  have p4 : w3.frozen? ⟨w.heap.size, 4, none⟩ = false := blk_frozen R2.out 4
  go_wp2
  refine ret_val rfl rfl rfl (set5 R2.out _ _ _ _ _) (give5 HR3.out HG3.out hgl (VA.plain _ _ _ _ ?_))
  show t.toArray.size ≤ maxLen
  unfold maxLen
  simp
  omega
end Go.Proofs.YtkafelcnpnlbfaaDoor
