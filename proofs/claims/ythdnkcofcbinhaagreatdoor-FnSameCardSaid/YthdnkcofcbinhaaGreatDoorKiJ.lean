/- kids, hasDeep, Comparable. -/
import Derived.Test.YthdnkcofcbinhaaGreatDoorIs3J
import Derived.Test.YthdnkcofcbinhaaGreatDoorTkJ
set_option linter.unusedVariables false
set_option linter.unusedSimpArgs false
namespace Go.Proofs.YthdnkcofcbinhaaGreatDoor
open Go.RowKit

theorem KInv.items {B o : Nat} {l : List Dat} {cv : Value} {css : List (List Value)} {w : World} (I : KInv B o l cv css w) : ∃ A c, cv = .slice A l.length c ∧ ∀ j, ItemAt w A (.mk 4 0 ⟨#[]⟩ [] l) j := by
  have hl5 : ∀ cs ∈ css, cs.length = 5 := by
    intro cs hcs
    obtain ⟨j, hj, rfl⟩ := List.mem_iff_getElem.1 hcs
    exact (I.at_ j (by have := I.len; omega) hj).len
  obtain ⟨A, c, hcv⟩ := own_sliceN I.row
  refine ⟨A, c, hcv, fun j hj => ?_⟩
  have hj1 : j < l.length := hj
  have hj2 : j < css.length := by rw [I.len]; exact hj1
  have hv := (I.at_ j hj1 hj2)
  obtain ⟨ka, ia, kc, ic, hs⟩ := hv.shape
  have hrow := I.row
  rcases hrow.2 with ⟨_, h0⟩ | ⟨q, cap, cur, hv2, -⟩
  · omega
  · rw [hv2] at hrow hcv
    injection hcv with e1 e2 e3
    have cat : ∀ t u, css[j][t]? = some u → w.cell? ⟨q, 0 + j * 5 + t, none⟩ = some u := by
      intro t u hu
      have ht : t < 5 := by
        have h1 := (List.getElem?_eq_some_iff.1 hu).1
        have h2 := hl5 _ (List.getElem_mem hj2)
        omega
      rw [show 0 + j * 5 + t = j * 5 + t by omega, hrow.cellAt _ (by omega), flat_at hl5 j t hj2 ht]
      exact hu
    have hvw := hv.ofS
    rw [hs] at hvw cat
    exact ⟨q, 0, ka, ia, kc, ic, e1.symm, cat 0 _ rfl, cat 1 _ rfl, cat 2 _ rfl, cat 3 _ rfl, cat 4 _ rfl, hvw⟩

def kidsUp (v : Dat) (i : Nat) : List Dat := ((pairs v).take i).flatMap fun p => kidsD (shapeN p.1) p.2
theorem kidsUp_succ {v : Dat} {i : Nat} (h : i < v.keys.length) (h' : i < v.items.length) : kidsUp v (i + 1) = kidsUp v i ++ kidsD (shapeN v.keys[i]) v.items[i] := by
  unfold kidsUp
  rw [take_succ_get (pairs_get h h'), List.flatMap_append]
  simp
theorem kidsUp_all {v : Dat} (h : v.keys.length ≤ v.items.length) : kidsUp v v.keys.length = kidsOf v := by
  unfold kidsUp kidsOf
  rw [List.take_of_length_le]
  unfold pairs
  rw [List.length_zip]
  omega
theorem kidsD_len {c : Nat} {x : Dat} (h : x.items.length ≤ 60) : (kidsD c x).length ≤ 60 := by
  have hf := List.length_filter_le (fun y : Dat => decide (y.kind = 5)) x.items
  unfold kidsD
  repeat' split
  all_goals first | (simp; done) | (simp only [List.length_singleton]; omega) | (simp only [List.length_nil]; omega) | omega

/-- What kids gives. -/
def GivesKids (v : Dat) (w : World) (e : Ending) (w' : World) : Prop := ∃ A c, e = .returned (.slice A (kidsOf v).length c) ∧ (kidsOf v).length ≤ 3600 ∧ (∀ j, ItemAt w' A (.mk 4 0 ⟨#[]⟩ [] (kidsOf v)) j) ∧ Below w.heap.size w w'

set_option maxRecDepth 100000 in
set_option maxHeartbeats 8000000 in
theorem kids_any (D : Nat) (v : Dat) (w : World) (cs : List Value) (hp : Plain D v) (hv : VA w v cs) : Calls Tryz.prog 24 #[.agg cs.toArray] w (GivesKids v w) := by
  obtain ⟨hkl, hk60, hi60⟩ := hp.keys_le
  have HP := Lib.hid (fun (i : Nat) (h : i < v.items.length) => (show v.items[i].items.length ≤ 60 ∧ v.items[i].keys.length ≤ 60 by obtain ⟨E, _, hE⟩ := hp.item' h; exact ⟨hE.keys_le.2.2, hE.keys_le.2.1⟩))
  have hvS := hv.allS
  obtain ⟨ka, ia, kc, ic, rfl, ht, hk, hkc, hkm, hic, him, hit⟩ := hvS.inv
  have HIT := Lib.hid hit
  have HK := Lib.hid hk
  clear hit hk hv hvS hp
  obtain ⟨W0, hW0⟩ : ∃ W0, W0 = ((w.alloc (.cells #[.int .i64 v.kind, .int .i64 v.num, .string v.text, .slice ka v.keys.length kc, .slice ia v.items.length ic] 25 (0, 0))).alloc (.cells #[] 25)).alloc (.cells #[.slice (some ⟨w.heap.size + 1, 0, none⟩) 0 0] 23 (0, 0)) := ⟨_, rfl⟩
  have HZ0 : Hid (W0.heap.size = w.heap.size + 1 + 1 + 1) := Lib.hid (by rw [hW0]; simp)
  have HW0 : Hid (Below w.heap.size w W0) := Lib.hid (by rw [hW0]; exact up_alloc (up_alloc (up_alloc (Below.refl _ _) _) _) _)
  have HX0 : Hid (W0.heap[w.heap.size]? = some (.cells #[.int .i64 v.kind, .int .i64 v.num, .string v.text, .slice ka v.keys.length kc, .slice ia v.items.length ic] 25 (0, 0))) := Lib.hid (by rw [hW0]; exact blk_up (blk_new w _) (up_alloc (up_alloc (Below.refl _ _) _) _))
  have HK0 : Hid (KInv w.heap.size (w.heap.size + 1 + 1) [] (.slice (some ⟨w.heap.size + 1, 0, none⟩) 0 0) [] W0) := Lib.hid (by
    rw [hW0]
    refine ⟨?_, ?_, rfl, fun j h => absurd h (Nat.not_lt_zero _), by simp [Value.ownBlock], by omega⟩
    · have := blk_new ((w.alloc (.cells #[.int .i64 v.kind, .int .i64 v.num, .string v.text, .slice ka v.keys.length kc, .slice ia v.items.length ic] 25 (0, 0))).alloc (.cells #[] 25)) (.cells #[.slice (some ⟨w.heap.size + 1, 0, none⟩) 0 0] 23 (0, 0))
      simpa using this
    · have := World.ownsRow_made (base := w.heap.size) (e := 25) (size := 5) (w.alloc (.cells #[.int .i64 v.kind, .int .i64 v.num, .string v.text, .slice ka v.keys.length kc, .slice ia v.items.length ic] 25 (0, 0))) #[] 0 (by simp) (by unfold maxLen; omega) rfl
      have h2 := this.alloc (.cells #[.slice (some ⟨w.heap.size + 1, 0, none⟩) 0 0] 23 (0, 0))
      simpa using h2)
  have HEQ := Lib.hid hW0
  clear hW0
  have hmf : ∀ (fn : Fn) (first cap : Array Value) (w : World), (Instr.makeFunc fn first cap).run Tryz.prog w = .ok (.func fn first cap) w := fun _ _ _ _ => rfl
  go_enter Tryz.func24, Tryz.ntmps24
  go_wp2
  go_loopg [10] v.keys.length (fun gk v10 wr => ∃ (i : Nat) (cv : Value) (css : List (List Value)), v10 = .int .i64 i ∧ i + gk = v.keys.length ∧ Hid (KInv w.heap.size (w.heap.size + 1 + 1) (kidsUp v i) cv css wr) ∧ Hid (KStep (w.heap.size + 1 + 1) (.slice (some ⟨w.heap.size + 1, 0, none⟩) 0 0) cv W0 wr) ∧ Hid ((kidsUp v i).length ≤ 60 * i))
  case atStart =>
    refine ⟨0, .slice (some ⟨w.heap.size + 1, 0, none⟩) 0 0, [], rfl, by omega, Lib.hid ?_, Lib.hid ?_, Lib.hid (by simp [kidsUp])⟩
    · have h := HK0.out
      rw [HEQ.out] at h
      exact h
    · rw [HEQ.out]
      exact KStep.refl _ _ _
  case round =>
    obtain ⟨i, cv, css, rfl, hi, HKI, HST, HLE⟩ := hrel
    have HFB : Hid (∀ k, k < w.heap.size + 1 → wr.heap[k]? = W0.heap[k]?) := Lib.hid (fun k hk => HST.out.block k (by have := HZ0.out; omega) (by omega) (by simp [Value.ownBlock]; omega))
    by_cases hlt : i < v.keys.length
    · have hli : i < v.items.length := by omega
      obtain ⟨hl, b, o, hb, hc⟩ := HK.out i hlt
      cases hb
      obtain ⟨b', o', ka', ia', kc', ic', hb', h0, h1, h2, h3, h4, hvi⟩ := HIT.out i hli
      cases hb'
      have mv : ∀ a u, (onS w fun k => k < w.heap.size).cell? a = some u → wr.cell? a = some u := fun a u h => by
        obtain ⟨q1, q2⟩ := onS_out h
        exact (World.cell?_of_block (a := a) ((HFB.out _ (by omega)).trans (HW0.out.block _ q1))).trans q2
      replace hc := mv _ _ hc
      replace h0 := mv _ _ h0
      replace h1 := mv _ _ h1
      replace h2 := mv _ _ h2
      replace h3 := mv _ _ h3
      replace h4 := mv _ _ h4
      have hsu := kidsUp_succ hlt hli
      have hpi := HP.out i hli
      have HVI := Lib.hid (hvi.upS (w1 := wr) (T := fun k => k < w.heap.size) (fun k hk => (HFB.out _ (by omega)).trans (HW0.out.block _ hk)) (fun _ h => h))
      obtain ⟨x, hx⟩ : ∃ x, v.items[i] = x := ⟨_, rfl⟩
      obtain ⟨key, hkey⟩ : ∃ x, v.keys[i] = x := ⟨_, rfl⟩
      rw [hx] at h0 h1 h2 h3 h4 HVI hsu hpi
      rw [hkey] at hc hsu
      have HSU := Lib.hid hsu
      have HPI := Lib.hid hpi
      have q4 : wr.cell? ⟨w.heap.size, 4, none⟩ = some (.slice (some ⟨b', o', none⟩) v.items.length ic) := (blk_cell ((HFB.out _ (by omega)).trans HX0.out) 4).trans rfl
      have j1 : (i : Int) < (v.items.length : Int) := by omega
      have j2 : (i : Int) < (v.keys.length : Int) := by omega
      clear hx hkey hvi hsu mv hl hpi
      go_wp2_with fail
      go_at_call 17
      refine (turned_kids w.heap.size (w.heap.size + 1 + 1) (kidsUp v i) cv css key x wr _ HKI.out (by have := HLE.out; omega) HVI.out HPI.out.1 HPI.out.2).mono ?_
      rintro e w4 ⟨cs4, cv4, css4, ⟨_, _, _, _, _, _, _, _, _, rfl⟩, rfl, -, hk4, hs4⟩
      have HK4 := Lib.hid hk4
      have HS4 := Lib.hid (HST.out.trans hs4)
      clear hk4 hs4
      go_wp2
      go_roundg (v.keys.length - (i + 1))
      case measure => omega
      case rel =>
        refine ⟨i + 1, cv4, css4, by go_num, by omega, Lib.hid ?_, HS4, Lib.hid ?_⟩
        · rw [HSU.out]
          exact HK4.out
        · rw [HSU.out, List.length_append]
          have h1 := HLE.out
          have h2 := kidsD_len (c := shapeN key) HPI.out.1
          omega
    · obtain rfl : i = v.keys.length := by omega
      have hq : wr.cell? ⟨w.heap.size + 1 + 1, 0, none⟩ = some cv := (blk_cell HKI.out.box 0).trans rfl
      obtain ⟨A, c, hcv, hit⟩ := HKI.out.items
      rw [kidsUp_all hkl] at hcv hit
      have HI2 := Lib.hid hit
      clear hit
      subst hcv
      go_wp2
      go_ret
      refine ⟨A, c, rfl, by have := HLE.out; rw [kidsUp_all hkl] at this; omega, HI2.out, ⟨HST.out.os.trans HW0.out.os, HST.out.tape.trans HW0.out.tape, HST.out.output.trans HW0.out.output, Nat.le_trans HW0.out.size HST.out.size, fun k hk => (HFB.out k (by omega)).trans (HW0.out.block k hk)⟩⟩
/-- Keys of which nothing is told. -/
def badKeys : List ByteArray := [kMaximum, kMinimum, kMultipleOf, kDefault, kReadOnly, kWriteOnly]
/-- No such key, here and below. -/
def CmpD : Nat → Dat → Prop
  | 0, _ => True
  | d + 1, v => (∀ k ∈ v.keys, k ∉ badKeys) ∧ ∀ y ∈ kidsOf v, CmpD d y
def GivesNot (p : Prop) (w : World) (e : Ending) (w' : World) : Prop := ∃ b : Bool, e = .returned (.bool b) ∧ (b = false → p) ∧ Below w.heap.size w w'

set_option maxRecDepth 100000 in
set_option maxHeartbeats 8000000 in
theorem comparable1_any (v : Dat) (w : World) (cs : List Value) (hv : VA w v cs) : Calls Tryz.prog 14 #[.agg cs.toArray] w (GivesNot (∀ k ∈ v.keys, k ∉ badKeys) w) := by
  have F1 := Lib.hid (fun W (hb : Below w.heap.size w W) => find_any v kMaximum W cs (hv.up hb))
  have F2 := Lib.hid (fun W (hb : Below w.heap.size w W) => find_any v kMinimum W cs (hv.up hb))
  have F3 := Lib.hid (fun W (hb : Below w.heap.size w W) => find_any v kMultipleOf W cs (hv.up hb))
  have F4 := Lib.hid (fun W (hb : Below w.heap.size w W) => find_any v kDefault W cs (hv.up hb))
  have F5 := Lib.hid (fun W (hb : Below w.heap.size w W) => find_any v kReadOnly W cs (hv.up hb))
  have F6 := Lib.hid (fun W (hb : Below w.heap.size w W) => find_any v kWriteOnly W cs (hv.up hb))
  unfold kMaximum at F1
  unfold kMinimum at F2
  unfold kMultipleOf at F3
  unfold kDefault at F4
  unfold kReadOnly at F5
  unfold kWriteOnly at F6
  obtain ⟨ka, ia, kc, ic, rfl, -⟩ := hv.inv
  clear hv
  have HB0 := Lib.hid (up_alloc (Below.refl w.heap.size w) (.cells #[.int .i64 v.kind, .int .i64 v.num, .string v.text, .slice ka v.keys.length kc, .slice ia v.items.length ic] 25 (0, 0)))
  have HX0 := Lib.hid (blk_new w (.cells #[.int .i64 v.kind, .int .i64 v.num, .string v.text, .slice ka v.keys.length kc, .slice ia v.items.length ic] 25 (0, 0)))
  go_enter Tryz.func14, Tryz.ntmps14
  go_wp2_with fail
  go_at_call 15
  refine (F1.out _ HB0.out).mono ?_
  rintro e w1 ⟨r1, rfl, hr, hb⟩
  have HB1 := Lib.hid (up_trans HB0.out hb)
  have HX1 := Lib.hid (blk_up HX0.out hb)
  clear hb
  have q0 : w1.cell? ⟨w.heap.size, 0, none⟩ = some (.int .i64 v.kind) := (blk_cell HX1.out 0).trans rfl
  have q1 : w1.cell? ⟨w.heap.size, 1, none⟩ = some (.int .i64 v.num) := (blk_cell HX1.out 1).trans rfl
  have q2 : w1.cell? ⟨w.heap.size, 2, none⟩ = some (.string v.text) := (blk_cell HX1.out 2).trans rfl
  have q3 : w1.cell? ⟨w.heap.size, 3, none⟩ = some (.slice ka v.keys.length kc) := (blk_cell HX1.out 3).trans rfl
  have q4 : w1.cell? ⟨w.heap.size, 4, none⟩ = some (.slice ia v.items.length ic) := (blk_cell HX1.out 4).trans rfl
  rcases hr with ⟨rfl, hno⟩ | ⟨j1, hj, rfl, -⟩
  rotate_left
  · have hj0 : (0 : Int) ≤ (j1 : Int) := by omega
    clear hj
    go_wp2
    go_ret
    exact ⟨true, rfl, fun h => by simp at h, HB1.out⟩
  have N1 := Lib.hid hno
  clear hno
  go_wp2_with fail
  go_at_call 15
  refine (F2.out _ HB1.out).mono ?_
  rintro e w2 ⟨r2, rfl, hr, hb⟩
  have HB2 := Lib.hid (up_trans HB1.out hb)
  have HX2 := Lib.hid (blk_up HX1.out hb)
  clear hb
  have q0 : w2.cell? ⟨w.heap.size, 0, none⟩ = some (.int .i64 v.kind) := (blk_cell HX2.out 0).trans rfl
  have q1 : w2.cell? ⟨w.heap.size, 1, none⟩ = some (.int .i64 v.num) := (blk_cell HX2.out 1).trans rfl
  have q2 : w2.cell? ⟨w.heap.size, 2, none⟩ = some (.string v.text) := (blk_cell HX2.out 2).trans rfl
  have q3 : w2.cell? ⟨w.heap.size, 3, none⟩ = some (.slice ka v.keys.length kc) := (blk_cell HX2.out 3).trans rfl
  have q4 : w2.cell? ⟨w.heap.size, 4, none⟩ = some (.slice ia v.items.length ic) := (blk_cell HX2.out 4).trans rfl
  rcases hr with ⟨rfl, hno⟩ | ⟨j2, hj, rfl, -⟩
  rotate_left
  · have hj0 : (0 : Int) ≤ (j2 : Int) := by omega
    clear hj
    go_wp2
    go_ret
    exact ⟨true, rfl, fun h => by simp at h, HB2.out⟩
  have N2 := Lib.hid hno
  clear hno
  go_wp2_with fail
  go_at_call 15
  refine (F3.out _ HB2.out).mono ?_
  rintro e w3 ⟨r3, rfl, hr, hb⟩
  have HB3 := Lib.hid (up_trans HB2.out hb)
  have HX3 := Lib.hid (blk_up HX2.out hb)
  clear hb
  have q0 : w3.cell? ⟨w.heap.size, 0, none⟩ = some (.int .i64 v.kind) := (blk_cell HX3.out 0).trans rfl
  have q1 : w3.cell? ⟨w.heap.size, 1, none⟩ = some (.int .i64 v.num) := (blk_cell HX3.out 1).trans rfl
  have q2 : w3.cell? ⟨w.heap.size, 2, none⟩ = some (.string v.text) := (blk_cell HX3.out 2).trans rfl
  have q3 : w3.cell? ⟨w.heap.size, 3, none⟩ = some (.slice ka v.keys.length kc) := (blk_cell HX3.out 3).trans rfl
  have q4 : w3.cell? ⟨w.heap.size, 4, none⟩ = some (.slice ia v.items.length ic) := (blk_cell HX3.out 4).trans rfl
  rcases hr with ⟨rfl, hno⟩ | ⟨j3, hj, rfl, -⟩
  rotate_left
  · have hj0 : (0 : Int) ≤ (j3 : Int) := by omega
    clear hj
    go_wp2
    go_ret
    exact ⟨true, rfl, fun h => by simp at h, HB3.out⟩
  have N3 := Lib.hid hno
  clear hno
  go_wp2_with fail
  go_at_call 15
  refine (F4.out _ HB3.out).mono ?_
  rintro e w4 ⟨r4, rfl, hr, hb⟩
  have HB4 := Lib.hid (up_trans HB3.out hb)
  have HX4 := Lib.hid (blk_up HX3.out hb)
  clear hb
  have q0 : w4.cell? ⟨w.heap.size, 0, none⟩ = some (.int .i64 v.kind) := (blk_cell HX4.out 0).trans rfl
  have q1 : w4.cell? ⟨w.heap.size, 1, none⟩ = some (.int .i64 v.num) := (blk_cell HX4.out 1).trans rfl
  have q2 : w4.cell? ⟨w.heap.size, 2, none⟩ = some (.string v.text) := (blk_cell HX4.out 2).trans rfl
  have q3 : w4.cell? ⟨w.heap.size, 3, none⟩ = some (.slice ka v.keys.length kc) := (blk_cell HX4.out 3).trans rfl
  have q4 : w4.cell? ⟨w.heap.size, 4, none⟩ = some (.slice ia v.items.length ic) := (blk_cell HX4.out 4).trans rfl
  rcases hr with ⟨rfl, hno⟩ | ⟨j4, hj, rfl, -⟩
  rotate_left
  · have hj0 : (0 : Int) ≤ (j4 : Int) := by omega
    clear hj
    go_wp2
    go_ret
    exact ⟨true, rfl, fun h => by simp at h, HB4.out⟩
  have N4 := Lib.hid hno
  clear hno
  go_wp2_with fail
  go_at_call 15
  refine (F5.out _ HB4.out).mono ?_
  rintro e w5 ⟨r5, rfl, hr, hb⟩
  have HB5 := Lib.hid (up_trans HB4.out hb)
  have HX5 := Lib.hid (blk_up HX4.out hb)
  clear hb
  have q0 : w5.cell? ⟨w.heap.size, 0, none⟩ = some (.int .i64 v.kind) := (blk_cell HX5.out 0).trans rfl
  have q1 : w5.cell? ⟨w.heap.size, 1, none⟩ = some (.int .i64 v.num) := (blk_cell HX5.out 1).trans rfl
  have q2 : w5.cell? ⟨w.heap.size, 2, none⟩ = some (.string v.text) := (blk_cell HX5.out 2).trans rfl
  have q3 : w5.cell? ⟨w.heap.size, 3, none⟩ = some (.slice ka v.keys.length kc) := (blk_cell HX5.out 3).trans rfl
  have q4 : w5.cell? ⟨w.heap.size, 4, none⟩ = some (.slice ia v.items.length ic) := (blk_cell HX5.out 4).trans rfl
  rcases hr with ⟨rfl, hno⟩ | ⟨j5, hj, rfl, -⟩
  rotate_left
  · have hj0 : (0 : Int) ≤ (j5 : Int) := by omega
    clear hj
    go_wp2
    go_ret
    exact ⟨true, rfl, fun h => by simp at h, HB5.out⟩
  have N5 := Lib.hid hno
  clear hno
  go_wp2_with fail
  go_at_call 15
  refine (F6.out _ HB5.out).mono ?_
  rintro e w6 ⟨r6, rfl, hr, hb⟩
  have HB6 := Lib.hid (up_trans HB5.out hb)
  have HX6 := Lib.hid (blk_up HX5.out hb)
  clear hb
  have q0 : w6.cell? ⟨w.heap.size, 0, none⟩ = some (.int .i64 v.kind) := (blk_cell HX6.out 0).trans rfl
  have q1 : w6.cell? ⟨w.heap.size, 1, none⟩ = some (.int .i64 v.num) := (blk_cell HX6.out 1).trans rfl
  have q2 : w6.cell? ⟨w.heap.size, 2, none⟩ = some (.string v.text) := (blk_cell HX6.out 2).trans rfl
  have q3 : w6.cell? ⟨w.heap.size, 3, none⟩ = some (.slice ka v.keys.length kc) := (blk_cell HX6.out 3).trans rfl
  have q4 : w6.cell? ⟨w.heap.size, 4, none⟩ = some (.slice ia v.items.length ic) := (blk_cell HX6.out 4).trans rfl
  rcases hr with ⟨rfl, hno⟩ | ⟨j6, hj, rfl, -⟩
  rotate_left
  · have hj0 : (0 : Int) ≤ (j6 : Int) := by omega
    clear hj
    go_wp2
    go_ret
    exact ⟨true, rfl, fun h => by simp at h, HB6.out⟩
  have N6 := Lib.hid hno
  clear hno
  go_wp2
  go_ret
  refine ⟨false, rfl, fun _ k hk hbad => ?_, HB6.out⟩
  obtain ⟨i, hi, rfl⟩ := List.getElem_of_mem hk
  unfold badKeys at hbad
  simp only [List.mem_cons, List.not_mem_nil, or_false] at hbad
  rcases hbad with h | h | h | h | h | h
  · exact N1.out i hi h
  · exact N2.out i hi h
  · exact N3.out i hi h
  · exact N4.out i hi h
  · exact N5.out i hi h
  · exact N6.out i hi h

theorem kids_plain {D : Nat} {v : Dat} (hp : Plain D v) : ∀ y ∈ kidsOf v, ∃ E, E < D ∧ Plain E y := by
  intro y hy
  unfold kidsOf at hy
  rw [List.mem_flatMap] at hy
  obtain ⟨p, hp2, hy⟩ := hy
  obtain ⟨i, hi, e⟩ := List.getElem_of_mem (List.of_mem_zip hp2).2
  obtain ⟨E, hE, hpE⟩ := hp.item' hi
  rw [e] at hpE
  have flt : y ∈ p.2.items.filter (fun y => y.kind = 5) → ∃ E, E < D ∧ Plain E y := fun h => by
    obtain ⟨k, hk, e2⟩ := List.getElem_of_mem (List.mem_filter.1 h).1
    obtain ⟨E2, hE2, hpE2⟩ := hpE.item' hk
    exact ⟨E2, by omega, e2 ▸ hpE2⟩
  have one : y ∈ [p.2] → ∃ E, E < D ∧ Plain E y := fun h => by
    rw [List.mem_singleton] at h
    exact ⟨E, by omega, h ▸ hpE⟩
  have no : y ∈ ([] : List Dat) → ∃ E, E < D ∧ Plain E y := fun h => by cases h
  unfold kidsD at hy
  split at hy
  · exact one hy
  · split at hy
    · split at hy
      · exact one hy
      · exact no hy
    · split at hy
      · split at hy
        · exact one hy
        · exact flt hy
      · split at hy
        · exact flt hy
        · exact no hy

def DeepAt (D : Nat) : Prop := ∀ (F : Nat) (v : Dat) (w : World) (cs : List Value), D ≤ F → Plain D v → VA w v cs → Calls Tryz.prog 13 #[.agg cs.toArray, .func (.func 14) #[] #[]] w (GivesNot (CmpD (F + 1) v) w)
set_option maxRecDepth 100000 in
set_option maxHeartbeats 8000000 in
theorem deep_step (D : Nat) (ih : ∀ E, E < D → DeepAt E) : DeepAt D := by
  intro F v w cs hDF hp hv
  have HC := Lib.hid (fun W (hb : Below w.heap.size w W) => comparable1_any v W cs (hv.up hb))
  have HKD := Lib.hid (fun W (hb : Below w.heap.size w W) => kids_any D v W cs hp (hv.up hb))
  have HIH := Lib.hid (fun (y : Dat) (hy : y ∈ kidsOf v) (W : World) (cs' : List Value) (hv' : VA W y cs') => (show Calls Tryz.prog 13 #[.agg cs'.toArray, .func (.func 14) #[] #[]] W (GivesNot (CmpD F y) W) by
    obtain ⟨E, hE, hpE⟩ := kids_plain hp y hy
    obtain ⟨F', rfl⟩ : ∃ F', F = F' + 1 := ⟨F - 1, by omega⟩
    exact ih E hE F' y W cs' (by omega) hpE hv'))
  obtain ⟨ka, ia, kc, ic, rfl, -⟩ := hv.inv
  clear hv hp ih hDF
  obtain ⟨l, hl⟩ : ∃ l, kidsOf v = l := ⟨_, rfl⟩
  have HL := Lib.hid hl
  unfold GivesKids at HKD
  rw [hl] at HKD HIH
  clear hl
  go_enter Tryz.func13, Tryz.ntmps13
  go_wp2_with fail
  go_at_call 14
  refine (HC.out _ (up_alloc (Below.refl _ _) _)).mono ?_
  rintro e w1 ⟨b, rfl, hgood, hb⟩
  have HB1 := Lib.hid (up_trans (up_alloc (Below.refl w.heap.size w) _) hb)
  have HX1 := Lib.hid (blk_up (blk_new w _) hb)
  have HG := Lib.hid hgood
  clear hb hgood
  cases b
  rotate_left
  · go_wp2
    go_ret
    exact ⟨true, rfl, fun h => by simp at h, HB1.out⟩
  have q0 : w1.cell? ⟨w.heap.size, 0, none⟩ = some (.int .i64 v.kind) := (blk_cell HX1.out 0).trans rfl
  have q1 : w1.cell? ⟨w.heap.size, 1, none⟩ = some (.int .i64 v.num) := (blk_cell HX1.out 1).trans rfl
  have q2 : w1.cell? ⟨w.heap.size, 2, none⟩ = some (.string v.text) := (blk_cell HX1.out 2).trans rfl
  have q3 : w1.cell? ⟨w.heap.size, 3, none⟩ = some (.slice ka v.keys.length kc) := (blk_cell HX1.out 3).trans rfl
  have q4 : w1.cell? ⟨w.heap.size, 4, none⟩ = some (.slice ia v.items.length ic) := (blk_cell HX1.out 4).trans rfl
  go_wp2_with fail
  go_at_call 24
  refine (HKD.out _ HB1.out).mono ?_
  rintro e w2 ⟨A, c, rfl, hl36, hit, hb⟩
  have HB2 := Lib.hid (up_trans HB1.out hb)
  have HIT := Lib.hid hit
  clear hb hit q0 q1 q2 q3 q4
  go_wp2
  go_loopg [13] l.length (fun gk v13 wr => ∃ i : Nat, v13 = .int .i64 i ∧ i + gk = l.length ∧ Hid (∀ j (h : j < l.length), j < i → CmpD F l[j]) ∧ Hid (Below w2.heap.size w2 wr))
  case atStart => exact ⟨0, rfl, by omega, Lib.hid (fun _ _ h => absurd h (Nat.not_lt_zero _)), Lib.hid (Below.refl _ _)⟩
  case round =>
    obtain ⟨i, rfl, hi, HJ, HB⟩ := hrel
    by_cases hlt : i < l.length
    · obtain ⟨b, o, ka', ia', kc', ic', hb, h0, h1, h2, h3, h4, hvi⟩ := (HIT.out i).up HB.out hlt
      cases hb
      have hit : (Dat.mk 4 0 ⟨#[]⟩ [] l).items = l := rfl
      obtain ⟨x, hx⟩ : ∃ x, l[i] = x := ⟨_, rfl⟩
      have e1 : (Dat.mk 4 0 ⟨#[]⟩ [] l).items[i]'hlt = x := hx
      rw [e1] at h0 h1 h2 h3 h4 hvi
      have HC2 := Lib.hid (fun W (hb : Below wr.heap.size wr W) => HIH.out x (by rw [← hx]; exact List.getElem_mem _) W _ (hvi.up hb))
      have HX := Lib.hid hx
      have j1 : (i : Int) < (l.length : Int) := by omega
      clear hvi hx hit e1
      go_wp2_with fail
      go_at_call 13
      refine (HC2.out _ (up_alloc (Below.refl _ _) _)).mono ?_
      rintro e w3 ⟨b, rfl, hg, hb3⟩
      have HB3 := Lib.hid (up_trans HB.out (up_trans (up_alloc (Below.refl _ _) _) hb3))
      have HG3 := Lib.hid hg
      clear hg hb3
      cases b
      · go_wp2
        go_roundg (l.length - (i + 1))
        case measure => omega
        case rel =>
          refine ⟨i + 1, by go_num, by omega, Lib.hid (fun j hj hji => ?_), HB3⟩
          rcases Nat.lt_or_ge j i with h | h
          · exact HJ.out j hj h
          · obtain rfl : j = i := by omega
            rw [HX.out]
            exact HG3.out trivial
      · go_wp2
        go_ret
        exact ⟨true, rfl, fun h => by simp at h, up_trans HB2.out HB3.out⟩
    · have hall : i = l.length := by omega
      have HE := Lib.hid hall
      clear hall
      go_wp2
      go_ret
      refine ⟨false, rfl, fun _ => ⟨HG.out trivial, fun y hy => ?_⟩, up_trans HB2.out HB.out⟩
      rw [HL.out] at hy
      obtain ⟨j, hj, rfl⟩ := List.getElem_of_mem hy
      exact HJ.out j hj (by have := HE.out; omega)

theorem deep_all : ∀ D, DeepAt D := by
  intro D
  induction D using Nat.strongRecOn with
  | _ D ih => exact deep_step D ih

theorem Comparable_any (D : Nat) (v : Dat) (w : World) (cs : List Value) (hp : Plain D v) (hv : VA w v cs) : Calls Tryz.prog 6 #[.agg cs.toArray] w (SomeBool (CmpD (D + 1) v) w) := by
  have HD := Lib.hid (fun W (hb : Below w.heap.size w W) => deep_all D D v W cs (Nat.le_refl _) hp (hv.up hb))
  obtain ⟨ka, ia, kc, ic, rfl, -⟩ := hv.inv
  clear hv hp
  go_enter Tryz.func6, Tryz.ntmps6
  go_wp2_with fail
  go_at_call 13
  refine (HD.out _ (up_alloc (Below.refl _ _) _)).mono ?_
  rintro e w1 ⟨b, rfl, hg, hb⟩
  have HB1 := Lib.hid (up_trans (up_alloc (Below.refl w.heap.size w) _) hb)
  have HG := Lib.hid hg
  clear hb hg
  have hnot : ∀ (x : Bool) (w : World), (Op.unary .not (.bool x)).run Tryz.prog w = .ok (.bool (!x)) w := fun _ _ => rfl
  cases b
  · go_wp2
    go_ret
    exact ⟨true, rfl, fun _ => HG.out trivial, HB1.out⟩
  · go_wp2
    go_ret
    exact ⟨false, rfl, by simp, HB1.out⟩
end Go.Proofs.YthdnkcofcbinhaaGreatDoor
