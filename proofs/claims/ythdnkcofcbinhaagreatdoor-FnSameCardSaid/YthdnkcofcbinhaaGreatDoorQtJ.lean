/- quarters: the text of a number of quarters (printed by gen_qt.py). -/
import Derived.Test.YthdnkcofcbinhaaGreatDoorGd3J
set_option linter.unusedVariables false
set_option linter.unusedSimpArgs false
namespace Go.Proofs.YthdnkcofcbinhaaGreatDoor
open Go.RowKit

theorem build_ends : ∀ w : World, (Instr.buildSlice 22 4 #[(0, .string ⟨#[46, 48]⟩), (1, .string ⟨#[46, 50, 53]⟩), (2, .string ⟨#[46, 53]⟩), (3, .string ⟨#[46, 55, 53]⟩)]).run Tryz.prog w =
    .ok (.slice (some ⟨w.heap.size, 0, none⟩) 4 4) (w.alloc (.cells #[.string ⟨#[46, 48]⟩, .string ⟨#[46, 50, 53]⟩, .string ⟨#[46, 53]⟩, .string ⟨#[46, 55, 53]⟩] 9)) := fun _ => by kernel_rfl

set_option maxRecDepth 100000 in
set_option maxHeartbeats 4000000 in
theorem quarters_pos0 (a q : Nat) (w : World) (ha : a < 1000000000) (hq : a / 4 = q) (hr : a % 4 = 0) (hT : Tab w) :
    Calls Tryz.prog 50 #[.int .i64 a] w fun e w' => e = .returned (.string ⟨(Lib.itoa q ++ [46, 48] : List UInt8).toArray⟩) ∧ Below w.heap.size w w' := by
  have HF := Lib.hid (fun W (hb : Below w.heap.size w W) => FormatInt_any q W (by omega) (by omega) (hT.up hb))
  have hbd := build_ends
  have e1 : ((a : Int).tdiv 4) = (q : Int) := by rw [Int.tdiv_eq_ediv_of_nonneg (by omega)]; omega
  have e2 : ((a : Int).tmod 4) = 0 := by rw [Int.tmod_eq_emod_of_nonneg (by omega)]; omega
  have e3 : IntKind.i64.wrap (q : Int) = q := by simp [IntKind.wrap, IntKind.bits, IntKind.signed]; omega
  have h0 : (a : Int) < 1000000000 := by omega
  have h1 : ¬ ((a : Int) < 0) := by omega
  have hsz : (intText q).size ≤ 25 := by
    have := itoa_short q (by omega) (by omega)
    show (Lib.itoa q).toArray.size ≤ _
    simpa using (by omega : (Lib.itoa q).length ≤ 25)
  have HRES : Hid (((⟨#[]⟩ : ByteArray) ++ intText q) ++ ⟨#[46, 48]⟩ = (⟨(Lib.itoa q ++ [46, 48] : List UInt8).toArray⟩ : ByteArray)) := Lib.hid (by apply ByteArray.ext; simp [intText])
  generalize intText q = tx at HF hsz HRES
  have s1 : ¬ (9223372036854775807 < tx.size) := by omega
  have s2 : ¬ (9223372036854775807 < tx.size + 2) := by omega
  have s3 : ¬ (9223372036854775807 < 1 + tx.size) := by omega
  have s4 : ¬ (9223372036854775807 < 1 + tx.size + 2) := by omega
  clear hT hq hr hsz
  go_enter Tryz.func50, Tryz.ntmps50
  go_upto_region 4 with fail
  go_region_law (first
    | (go_simp
       go_at_call 49
       refine (HF.out _ ?_).mono ?_
       · first | exact up_drew (Below.refl _ _) | exact up_alloc (up_drew (Below.refl _ _)) _
       rintro e w1 ⟨rfl, hb1⟩
       have hz1 := hb1.size
       try have hcell : w1.cell? ⟨w.heap.size, 0, none⟩ = some (.string ⟨#[46, 48]⟩) := cell_up hb1 _ _ ((blk_cell (blk_new _ _) 0).trans rfl)
       have HB1 := Lib.hid hb1
       clear hb1))
  all_goals
    go_wp2
    go_ret
    refine ⟨by rw [HRES.out]; rfl, ?_⟩
    first | exact up_alloc (up_trans (up_drew (Below.refl _ _)) HB1.out) _ | exact up_trans (up_alloc (up_drew (Below.refl _ _)) _) HB1.out

set_option maxRecDepth 100000 in
set_option maxHeartbeats 4000000 in
theorem quarters_pos1 (a q : Nat) (w : World) (ha : a < 1000000000) (hq : a / 4 = q) (hr : a % 4 = 1) (hT : Tab w) :
    Calls Tryz.prog 50 #[.int .i64 a] w fun e w' => e = .returned (.string ⟨(Lib.itoa q ++ [46, 50, 53] : List UInt8).toArray⟩) ∧ Below w.heap.size w w' := by
  have HF := Lib.hid (fun W (hb : Below w.heap.size w W) => FormatInt_any q W (by omega) (by omega) (hT.up hb))
  have hbd := build_ends
  have e1 : ((a : Int).tdiv 4) = (q : Int) := by rw [Int.tdiv_eq_ediv_of_nonneg (by omega)]; omega
  have e2 : ((a : Int).tmod 4) = 1 := by rw [Int.tmod_eq_emod_of_nonneg (by omega)]; omega
  have e3 : IntKind.i64.wrap (q : Int) = q := by simp [IntKind.wrap, IntKind.bits, IntKind.signed]; omega
  have h0 : (a : Int) < 1000000000 := by omega
  have h1 : ¬ ((a : Int) < 0) := by omega
  have hsz : (intText q).size ≤ 25 := by
    have := itoa_short q (by omega) (by omega)
    show (Lib.itoa q).toArray.size ≤ _
    simpa using (by omega : (Lib.itoa q).length ≤ 25)
  have HRES : Hid (((⟨#[]⟩ : ByteArray) ++ intText q) ++ ⟨#[46, 50, 53]⟩ = (⟨(Lib.itoa q ++ [46, 50, 53] : List UInt8).toArray⟩ : ByteArray)) := Lib.hid (by apply ByteArray.ext; simp [intText])
  generalize intText q = tx at HF hsz HRES
  have s1 : ¬ (9223372036854775807 < tx.size) := by omega
  have s2 : ¬ (9223372036854775807 < tx.size + 3) := by omega
  have s3 : ¬ (9223372036854775807 < 1 + tx.size) := by omega
  have s4 : ¬ (9223372036854775807 < 1 + tx.size + 3) := by omega
  clear hT hq hr hsz
  go_enter Tryz.func50, Tryz.ntmps50
  go_upto_region 4 with fail
  go_region_law (first
    | (go_simp
       go_at_call 49
       refine (HF.out _ ?_).mono ?_
       · first | exact up_drew (Below.refl _ _) | exact up_alloc (up_drew (Below.refl _ _)) _
       rintro e w1 ⟨rfl, hb1⟩
       have hz1 := hb1.size
       try have hcell : w1.cell? ⟨w.heap.size, 1, none⟩ = some (.string ⟨#[46, 50, 53]⟩) := cell_up hb1 _ _ ((blk_cell (blk_new _ _) 1).trans rfl)
       have HB1 := Lib.hid hb1
       clear hb1))
  all_goals
    go_wp2
    go_ret
    refine ⟨by rw [HRES.out]; rfl, ?_⟩
    first | exact up_alloc (up_trans (up_drew (Below.refl _ _)) HB1.out) _ | exact up_trans (up_alloc (up_drew (Below.refl _ _)) _) HB1.out

set_option maxRecDepth 100000 in
set_option maxHeartbeats 4000000 in
theorem quarters_pos2 (a q : Nat) (w : World) (ha : a < 1000000000) (hq : a / 4 = q) (hr : a % 4 = 2) (hT : Tab w) :
    Calls Tryz.prog 50 #[.int .i64 a] w fun e w' => e = .returned (.string ⟨(Lib.itoa q ++ [46, 53] : List UInt8).toArray⟩) ∧ Below w.heap.size w w' := by
  have HF := Lib.hid (fun W (hb : Below w.heap.size w W) => FormatInt_any q W (by omega) (by omega) (hT.up hb))
  have hbd := build_ends
  have e1 : ((a : Int).tdiv 4) = (q : Int) := by rw [Int.tdiv_eq_ediv_of_nonneg (by omega)]; omega
  have e2 : ((a : Int).tmod 4) = 2 := by rw [Int.tmod_eq_emod_of_nonneg (by omega)]; omega
  have e3 : IntKind.i64.wrap (q : Int) = q := by simp [IntKind.wrap, IntKind.bits, IntKind.signed]; omega
  have h0 : (a : Int) < 1000000000 := by omega
  have h1 : ¬ ((a : Int) < 0) := by omega
  have hsz : (intText q).size ≤ 25 := by
    have := itoa_short q (by omega) (by omega)
    show (Lib.itoa q).toArray.size ≤ _
    simpa using (by omega : (Lib.itoa q).length ≤ 25)
  have HRES : Hid (((⟨#[]⟩ : ByteArray) ++ intText q) ++ ⟨#[46, 53]⟩ = (⟨(Lib.itoa q ++ [46, 53] : List UInt8).toArray⟩ : ByteArray)) := Lib.hid (by apply ByteArray.ext; simp [intText])
  generalize intText q = tx at HF hsz HRES
  have s1 : ¬ (9223372036854775807 < tx.size) := by omega
  have s2 : ¬ (9223372036854775807 < tx.size + 2) := by omega
  have s3 : ¬ (9223372036854775807 < 1 + tx.size) := by omega
  have s4 : ¬ (9223372036854775807 < 1 + tx.size + 2) := by omega
  clear hT hq hr hsz
  go_enter Tryz.func50, Tryz.ntmps50
  go_upto_region 4 with fail
  go_region_law (first
    | (go_simp
       go_at_call 49
       refine (HF.out _ ?_).mono ?_
       · first | exact up_drew (Below.refl _ _) | exact up_alloc (up_drew (Below.refl _ _)) _
       rintro e w1 ⟨rfl, hb1⟩
       have hz1 := hb1.size
       try have hcell : w1.cell? ⟨w.heap.size, 2, none⟩ = some (.string ⟨#[46, 53]⟩) := cell_up hb1 _ _ ((blk_cell (blk_new _ _) 2).trans rfl)
       have HB1 := Lib.hid hb1
       clear hb1))
  all_goals
    go_wp2
    go_ret
    refine ⟨by rw [HRES.out]; rfl, ?_⟩
    first | exact up_alloc (up_trans (up_drew (Below.refl _ _)) HB1.out) _ | exact up_trans (up_alloc (up_drew (Below.refl _ _)) _) HB1.out

set_option maxRecDepth 100000 in
set_option maxHeartbeats 4000000 in
theorem quarters_pos3 (a q : Nat) (w : World) (ha : a < 1000000000) (hq : a / 4 = q) (hr : a % 4 = 3) (hT : Tab w) :
    Calls Tryz.prog 50 #[.int .i64 a] w fun e w' => e = .returned (.string ⟨(Lib.itoa q ++ [46, 55, 53] : List UInt8).toArray⟩) ∧ Below w.heap.size w w' := by
  have HF := Lib.hid (fun W (hb : Below w.heap.size w W) => FormatInt_any q W (by omega) (by omega) (hT.up hb))
  have hbd := build_ends
  have e1 : ((a : Int).tdiv 4) = (q : Int) := by rw [Int.tdiv_eq_ediv_of_nonneg (by omega)]; omega
  have e2 : ((a : Int).tmod 4) = 3 := by rw [Int.tmod_eq_emod_of_nonneg (by omega)]; omega
  have e3 : IntKind.i64.wrap (q : Int) = q := by simp [IntKind.wrap, IntKind.bits, IntKind.signed]; omega
  have h0 : (a : Int) < 1000000000 := by omega
  have h1 : ¬ ((a : Int) < 0) := by omega
  have hsz : (intText q).size ≤ 25 := by
    have := itoa_short q (by omega) (by omega)
    show (Lib.itoa q).toArray.size ≤ _
    simpa using (by omega : (Lib.itoa q).length ≤ 25)
  have HRES : Hid (((⟨#[]⟩ : ByteArray) ++ intText q) ++ ⟨#[46, 55, 53]⟩ = (⟨(Lib.itoa q ++ [46, 55, 53] : List UInt8).toArray⟩ : ByteArray)) := Lib.hid (by apply ByteArray.ext; simp [intText])
  generalize intText q = tx at HF hsz HRES
  have s1 : ¬ (9223372036854775807 < tx.size) := by omega
  have s2 : ¬ (9223372036854775807 < tx.size + 3) := by omega
  have s3 : ¬ (9223372036854775807 < 1 + tx.size) := by omega
  have s4 : ¬ (9223372036854775807 < 1 + tx.size + 3) := by omega
  clear hT hq hr hsz
  go_enter Tryz.func50, Tryz.ntmps50
  go_upto_region 4 with fail
  go_region_law (first
    | (go_simp
       go_at_call 49
       refine (HF.out _ ?_).mono ?_
       · first | exact up_drew (Below.refl _ _) | exact up_alloc (up_drew (Below.refl _ _)) _
       rintro e w1 ⟨rfl, hb1⟩
       have hz1 := hb1.size
       try have hcell : w1.cell? ⟨w.heap.size, 3, none⟩ = some (.string ⟨#[46, 55, 53]⟩) := cell_up hb1 _ _ ((blk_cell (blk_new _ _) 3).trans rfl)
       have HB1 := Lib.hid hb1
       clear hb1))
  all_goals
    go_wp2
    go_ret
    refine ⟨by rw [HRES.out]; rfl, ?_⟩
    first | exact up_alloc (up_trans (up_drew (Below.refl _ _)) HB1.out) _ | exact up_trans (up_alloc (up_drew (Below.refl _ _)) _) HB1.out

set_option maxRecDepth 100000 in
set_option maxHeartbeats 4000000 in
theorem quarters_neg0 (a q : Nat) (w : World) (ha0 : 0 < a) (ha : a < 1000000000) (hq : a / 4 = q) (hr : a % 4 = 0) (hT : Tab w) :
    Calls Tryz.prog 50 #[.int .i64 (-(a : Int))] w fun e w' => e = .returned (.string ⟨([45] ++ (Lib.itoa q ++ [46, 48]) : List UInt8).toArray⟩) ∧ Below w.heap.size w w' := by
  have HF := Lib.hid (fun W (hb : Below w.heap.size w W) => FormatInt_any q W (by omega) (by omega) (hT.up hb))
  have hbd := build_ends
  have e1 : ((a : Int).tdiv 4) = (q : Int) := by rw [Int.tdiv_eq_ediv_of_nonneg (by omega)]; omega
  have e2 : ((a : Int).tmod 4) = 0 := by rw [Int.tmod_eq_emod_of_nonneg (by omega)]; omega
  have e3 : IntKind.i64.wrap (q : Int) = q := by simp [IntKind.wrap, IntKind.bits, IntKind.signed]; omega
  have h0 : (a : Int) < 1000000000 := by omega
  have h1 : -(a : Int) < 0 := by omega
  have hsz : (intText q).size ≤ 25 := by
    have := itoa_short q (by omega) (by omega)
    show (Lib.itoa q).toArray.size ≤ _
    simpa using (by omega : (Lib.itoa q).length ≤ 25)
  have HRES : Hid (((⟨#[45]⟩ : ByteArray) ++ intText q) ++ ⟨#[46, 48]⟩ = (⟨([45] ++ (Lib.itoa q ++ [46, 48]) : List UInt8).toArray⟩ : ByteArray)) := Lib.hid (by apply ByteArray.ext; simp [intText])
  generalize intText q = tx at HF hsz HRES
  have s1 : ¬ (9223372036854775807 < tx.size) := by omega
  have s2 : ¬ (9223372036854775807 < tx.size + 2) := by omega
  have s3 : ¬ (9223372036854775807 < 1 + tx.size) := by omega
  have s4 : ¬ (9223372036854775807 < 1 + tx.size + 2) := by omega
  clear hT hq hr hsz
  go_enter Tryz.func50, Tryz.ntmps50
  go_upto_region 4 with fail
  go_region_law (first
    | (go_simp
       go_at_call 49
       refine (HF.out _ ?_).mono ?_
       · first | exact up_drew (Below.refl _ _) | exact up_alloc (up_drew (Below.refl _ _)) _
       rintro e w1 ⟨rfl, hb1⟩
       have hz1 := hb1.size
       try have hcell : w1.cell? ⟨w.heap.size, 0, none⟩ = some (.string ⟨#[46, 48]⟩) := cell_up hb1 _ _ ((blk_cell (blk_new _ _) 0).trans rfl)
       have HB1 := Lib.hid hb1
       clear hb1))
  all_goals
    go_wp2
    go_ret
    refine ⟨by rw [HRES.out]; rfl, ?_⟩
    first | exact up_alloc (up_trans (up_drew (Below.refl _ _)) HB1.out) _ | exact up_trans (up_alloc (up_drew (Below.refl _ _)) _) HB1.out

set_option maxRecDepth 100000 in
set_option maxHeartbeats 4000000 in
theorem quarters_neg1 (a q : Nat) (w : World) (ha0 : 0 < a) (ha : a < 1000000000) (hq : a / 4 = q) (hr : a % 4 = 1) (hT : Tab w) :
    Calls Tryz.prog 50 #[.int .i64 (-(a : Int))] w fun e w' => e = .returned (.string ⟨([45] ++ (Lib.itoa q ++ [46, 50, 53]) : List UInt8).toArray⟩) ∧ Below w.heap.size w w' := by
  have HF := Lib.hid (fun W (hb : Below w.heap.size w W) => FormatInt_any q W (by omega) (by omega) (hT.up hb))
  have hbd := build_ends
  have e1 : ((a : Int).tdiv 4) = (q : Int) := by rw [Int.tdiv_eq_ediv_of_nonneg (by omega)]; omega
  have e2 : ((a : Int).tmod 4) = 1 := by rw [Int.tmod_eq_emod_of_nonneg (by omega)]; omega
  have e3 : IntKind.i64.wrap (q : Int) = q := by simp [IntKind.wrap, IntKind.bits, IntKind.signed]; omega
  have h0 : (a : Int) < 1000000000 := by omega
  have h1 : -(a : Int) < 0 := by omega
  have hsz : (intText q).size ≤ 25 := by
    have := itoa_short q (by omega) (by omega)
    show (Lib.itoa q).toArray.size ≤ _
    simpa using (by omega : (Lib.itoa q).length ≤ 25)
  have HRES : Hid (((⟨#[45]⟩ : ByteArray) ++ intText q) ++ ⟨#[46, 50, 53]⟩ = (⟨([45] ++ (Lib.itoa q ++ [46, 50, 53]) : List UInt8).toArray⟩ : ByteArray)) := Lib.hid (by apply ByteArray.ext; simp [intText])
  generalize intText q = tx at HF hsz HRES
  have s1 : ¬ (9223372036854775807 < tx.size) := by omega
  have s2 : ¬ (9223372036854775807 < tx.size + 3) := by omega
  have s3 : ¬ (9223372036854775807 < 1 + tx.size) := by omega
  have s4 : ¬ (9223372036854775807 < 1 + tx.size + 3) := by omega
  clear hT hq hr hsz
  go_enter Tryz.func50, Tryz.ntmps50
  go_upto_region 4 with fail
  go_region_law (first
    | (go_simp
       go_at_call 49
       refine (HF.out _ ?_).mono ?_
       · first | exact up_drew (Below.refl _ _) | exact up_alloc (up_drew (Below.refl _ _)) _
       rintro e w1 ⟨rfl, hb1⟩
       have hz1 := hb1.size
       try have hcell : w1.cell? ⟨w.heap.size, 1, none⟩ = some (.string ⟨#[46, 50, 53]⟩) := cell_up hb1 _ _ ((blk_cell (blk_new _ _) 1).trans rfl)
       have HB1 := Lib.hid hb1
       clear hb1))
  all_goals
    go_wp2
    go_ret
    refine ⟨by rw [HRES.out]; rfl, ?_⟩
    first | exact up_alloc (up_trans (up_drew (Below.refl _ _)) HB1.out) _ | exact up_trans (up_alloc (up_drew (Below.refl _ _)) _) HB1.out

set_option maxRecDepth 100000 in
set_option maxHeartbeats 4000000 in
theorem quarters_neg2 (a q : Nat) (w : World) (ha0 : 0 < a) (ha : a < 1000000000) (hq : a / 4 = q) (hr : a % 4 = 2) (hT : Tab w) :
    Calls Tryz.prog 50 #[.int .i64 (-(a : Int))] w fun e w' => e = .returned (.string ⟨([45] ++ (Lib.itoa q ++ [46, 53]) : List UInt8).toArray⟩) ∧ Below w.heap.size w w' := by
  have HF := Lib.hid (fun W (hb : Below w.heap.size w W) => FormatInt_any q W (by omega) (by omega) (hT.up hb))
  have hbd := build_ends
  have e1 : ((a : Int).tdiv 4) = (q : Int) := by rw [Int.tdiv_eq_ediv_of_nonneg (by omega)]; omega
  have e2 : ((a : Int).tmod 4) = 2 := by rw [Int.tmod_eq_emod_of_nonneg (by omega)]; omega
  have e3 : IntKind.i64.wrap (q : Int) = q := by simp [IntKind.wrap, IntKind.bits, IntKind.signed]; omega
  have h0 : (a : Int) < 1000000000 := by omega
  have h1 : -(a : Int) < 0 := by omega
  have hsz : (intText q).size ≤ 25 := by
    have := itoa_short q (by omega) (by omega)
    show (Lib.itoa q).toArray.size ≤ _
    simpa using (by omega : (Lib.itoa q).length ≤ 25)
  have HRES : Hid (((⟨#[45]⟩ : ByteArray) ++ intText q) ++ ⟨#[46, 53]⟩ = (⟨([45] ++ (Lib.itoa q ++ [46, 53]) : List UInt8).toArray⟩ : ByteArray)) := Lib.hid (by apply ByteArray.ext; simp [intText])
  generalize intText q = tx at HF hsz HRES
  have s1 : ¬ (9223372036854775807 < tx.size) := by omega
  have s2 : ¬ (9223372036854775807 < tx.size + 2) := by omega
  have s3 : ¬ (9223372036854775807 < 1 + tx.size) := by omega
  have s4 : ¬ (9223372036854775807 < 1 + tx.size + 2) := by omega
  clear hT hq hr hsz
  go_enter Tryz.func50, Tryz.ntmps50
  go_upto_region 4 with fail
  go_region_law (first
    | (go_simp
       go_at_call 49
       refine (HF.out _ ?_).mono ?_
       · first | exact up_drew (Below.refl _ _) | exact up_alloc (up_drew (Below.refl _ _)) _
       rintro e w1 ⟨rfl, hb1⟩
       have hz1 := hb1.size
       try have hcell : w1.cell? ⟨w.heap.size, 2, none⟩ = some (.string ⟨#[46, 53]⟩) := cell_up hb1 _ _ ((blk_cell (blk_new _ _) 2).trans rfl)
       have HB1 := Lib.hid hb1
       clear hb1))
  all_goals
    go_wp2
    go_ret
    refine ⟨by rw [HRES.out]; rfl, ?_⟩
    first | exact up_alloc (up_trans (up_drew (Below.refl _ _)) HB1.out) _ | exact up_trans (up_alloc (up_drew (Below.refl _ _)) _) HB1.out

set_option maxRecDepth 100000 in
set_option maxHeartbeats 4000000 in
theorem quarters_neg3 (a q : Nat) (w : World) (ha0 : 0 < a) (ha : a < 1000000000) (hq : a / 4 = q) (hr : a % 4 = 3) (hT : Tab w) :
    Calls Tryz.prog 50 #[.int .i64 (-(a : Int))] w fun e w' => e = .returned (.string ⟨([45] ++ (Lib.itoa q ++ [46, 55, 53]) : List UInt8).toArray⟩) ∧ Below w.heap.size w w' := by
  have HF := Lib.hid (fun W (hb : Below w.heap.size w W) => FormatInt_any q W (by omega) (by omega) (hT.up hb))
  have hbd := build_ends
  have e1 : ((a : Int).tdiv 4) = (q : Int) := by rw [Int.tdiv_eq_ediv_of_nonneg (by omega)]; omega
  have e2 : ((a : Int).tmod 4) = 3 := by rw [Int.tmod_eq_emod_of_nonneg (by omega)]; omega
  have e3 : IntKind.i64.wrap (q : Int) = q := by simp [IntKind.wrap, IntKind.bits, IntKind.signed]; omega
  have h0 : (a : Int) < 1000000000 := by omega
  have h1 : -(a : Int) < 0 := by omega
  have hsz : (intText q).size ≤ 25 := by
    have := itoa_short q (by omega) (by omega)
    show (Lib.itoa q).toArray.size ≤ _
    simpa using (by omega : (Lib.itoa q).length ≤ 25)
  have HRES : Hid (((⟨#[45]⟩ : ByteArray) ++ intText q) ++ ⟨#[46, 55, 53]⟩ = (⟨([45] ++ (Lib.itoa q ++ [46, 55, 53]) : List UInt8).toArray⟩ : ByteArray)) := Lib.hid (by apply ByteArray.ext; simp [intText])
  generalize intText q = tx at HF hsz HRES
  have s1 : ¬ (9223372036854775807 < tx.size) := by omega
  have s2 : ¬ (9223372036854775807 < tx.size + 3) := by omega
  have s3 : ¬ (9223372036854775807 < 1 + tx.size) := by omega
  have s4 : ¬ (9223372036854775807 < 1 + tx.size + 3) := by omega
  clear hT hq hr hsz
  go_enter Tryz.func50, Tryz.ntmps50
  go_upto_region 4 with fail
  go_region_law (first
    | (go_simp
       go_at_call 49
       refine (HF.out _ ?_).mono ?_
       · first | exact up_drew (Below.refl _ _) | exact up_alloc (up_drew (Below.refl _ _)) _
       rintro e w1 ⟨rfl, hb1⟩
       have hz1 := hb1.size
       try have hcell : w1.cell? ⟨w.heap.size, 3, none⟩ = some (.string ⟨#[46, 55, 53]⟩) := cell_up hb1 _ _ ((blk_cell (blk_new _ _) 3).trans rfl)
       have HB1 := Lib.hid hb1
       clear hb1))
  all_goals
    go_wp2
    go_ret
    refine ⟨by rw [HRES.out]; rfl, ?_⟩
    first | exact up_alloc (up_trans (up_drew (Below.refl _ _)) HB1.out) _ | exact up_trans (up_alloc (up_drew (Below.refl _ _)) _) HB1.out

theorem quarters_any (n : Int) (w : World) (h0 : -1000000000 < n) (h1 : n < 1000000000) (hT : Tab w) :
    Calls Tryz.prog 50 #[.int .i64 n] w fun e w' => e = .returned (.string (quarterText n)) ∧ Below w.heap.size w w' := by
  have hr : n.natAbs % 4 = 0 ∨ n.natAbs % 4 = 1 ∨ n.natAbs % 4 = 2 ∨ n.natAbs % 4 = 3 := by omega
  unfold quarterText
  rcases Int.lt_or_le n 0 with hn | hn
  · have e : n = -(n.natAbs : Int) := by omega
    rw [if_pos hn]
    rcases hr with hr | hr | hr | hr
    · have h := quarters_neg0 n.natAbs _ w (by omega) (by omega) rfl hr hT
      rw [← e] at h
      rw [hr]
      exact h
    · have h := quarters_neg1 n.natAbs _ w (by omega) (by omega) rfl hr hT
      rw [← e] at h
      rw [hr]
      exact h
    · have h := quarters_neg2 n.natAbs _ w (by omega) (by omega) rfl hr hT
      rw [← e] at h
      rw [hr]
      exact h
    · have h := quarters_neg3 n.natAbs _ w (by omega) (by omega) rfl hr hT
      rw [← e] at h
      rw [hr]
      exact h
  · have e : n = (n.natAbs : Int) := by omega
    rw [if_neg (by omega)]
    rcases hr with hr | hr | hr | hr
    · have h := quarters_pos0 n.natAbs _ w (by omega) rfl hr hT
      rw [← e] at h
      rw [hr]
      exact h
    · have h := quarters_pos1 n.natAbs _ w (by omega) rfl hr hT
      rw [← e] at h
      rw [hr]
      exact h
    · have h := quarters_pos2 n.natAbs _ w (by omega) rfl hr hT
      rw [← e] at h
      rw [hr]
      exact h
    · have h := quarters_pos3 n.natAbs _ w (by omega) rfl hr hT
      rw [← e] at h
      rw [hr]
      exact h

theorem node_quarter (D : Nat) (v : Dat) (w : World) (cs : List Value) (hv : VA w v cs) (hT : Tab w) (p0 : v.kind = 6) (p1 : -1000000000 < v.num) (p2 : v.num < 1000000000) :
    Calls Tryz.prog 27 #[.agg cs.toArray, .bool false] w (GivesNode (D + 1) v w) := by
  obtain ⟨ka, ia, kc, ic, rfl, ht, hk, hkc, hkm, hic, him, hit⟩ := hv.inv
  have HP0 := Lib.hid p0
  have HF := Lib.hid (fun W (hb : Below w.heap.size w W) => quarters_any v.num W (by omega) (by omega) (hT.up hb))
  clear hit hk hv
  rw [p0]
  clear p0 hT
  go_enter Tryz.func27, Tryz.ntmps27
  go_wp2_with fail
  go_at_call 50
  refine (HF.out _ (up_alloc (Below.refl _ _) _)).mono ?_
  rintro e w1 ⟨rfl, hb1⟩
  have HB1 := Lib.hid (up_trans (up_alloc (Below.refl w.heap.size w) _) hb1)
  clear hb1
  go_wp2_with fail
  go_at_call 47
  refine (scalar_any _ _ _).mono ?_
  rintro e w2 ⟨rfl, hw2⟩
  have W2 := Lib.hid hw2
  clear hw2
  go_wp2
  go_ret
  rw [W2.out]
  exact ⟨_, rfl, ⟨⟨HB1.out.size, by simp⟩, .inl ⟨tFloat, _, .inr (.inr (.inr (.inl ⟨HP0.out, rfl, rfl⟩))), by simpa [nodeBlk, tFloat] using blk_new w1 (nodeBlk 8 tFloat (quarterText v.num) (.slice none 0 0))⟩⟩, up_alloc HB1.out _⟩
end Go.Proofs.YthdnkcofcbinhaaGreatDoor
