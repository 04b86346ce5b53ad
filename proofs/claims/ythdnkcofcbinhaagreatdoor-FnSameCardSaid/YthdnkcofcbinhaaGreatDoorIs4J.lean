/- The reference's isShape, IsSchema. -/
import Derived.Test.YthdnkcofcbinhaaGreatDoorIs3J
set_option linter.unusedVariables false
set_option linter.unusedSimpArgs false
namespace Go.Proofs.YthdnkcofcbinhaaGreatDoor
open Go.RowKit

theorem Plain.item {D : Nat} {v : Dat} (hp : Plain D v) {i : Nat} (h : i < v.items.length) : ∃ E, E + 1 = D ∧ Plain E v.items[i] := by
  have none : NoParts v → False := fun h' => by rw [h'.2] at h; exact absurd h (Nat.not_lt_zero _)
  have flat : ¬ Flat v := by
    rintro (h' | h' | h' | h' | h')
    · exact none h'.2.2.2
    · exact none h'.2.2.2
    · exact none h'.2.2.2.2
    · exact none h'.2.2.2.2.2
    · exact none h'.2.2.2
  cases D with
  | zero => exact absurd hp flat
  | succ D =>
    rcases hp with h' | h' | h'
    · exact absurd h' flat
    · exact ⟨D, rfl, h'.2.2.2.2.2 i h⟩
    · exact ⟨D, rfl, h'.2.2.2.2.2.2 i h⟩

set_option maxRecDepth 100000 in
set_option maxHeartbeats 4000000 in
theorem isShape_step (D : Nat) (ih : ∀ E, E < D → ∀ (v : Dat) (w : World) (cs : List Value), Plain E v → VA w v cs → Calls Tryz.prog 12 #[.agg cs.toArray] w (SomeBool (Shp (E + 1) v) w)) :
    ∀ (v : Dat) (w : World) (cs : List Value), Plain D v → VA w v cs → Calls Tryz.prog 12 #[.agg cs.toArray] w (SomeBool (Shp (D + 1) v) w) := by
  intro v w cs hp hv
  have hvw := hv
  obtain ⟨ka, ia, kc, ic, rfl, ht, hk, hkc, hkm, hic, him, hit⟩ := hv.inv
  rcases eq_or v.kind 5 with ⟨b1, b2⟩ | ⟨b1, b2⟩
  · have hk5 : v.kind = 5 := by simpa using b1
    obtain ⟨hkl, hkt⟩ := keys_apart hp hk5
    have HKL := Lib.hid hkl
    have HK5 := Lib.hid hk5
    have HIT := Lib.hid hit
    have HK := Lib.hid hk
    have HF := Lib.hid (fun i (h : i < v.items.length) (key : ByteArray) (W : World) (cs' : List Value) (hv' : VA W v.items[i] cs') =>
      fits_any (Shp D) key v.items[i] W cs' hv'
        (fun W' cs'' hv'' => by
          obtain ⟨E, hE, hpE⟩ := hp.item h
          have := ih E (by omega) v.items[i] W' cs'' hpE hv''
          rwa [hE] at this)
        (fun j hj W' cs'' hv'' => by
          obtain ⟨E, hE, hpE⟩ := hp.item h
          obtain ⟨E', hE', hpE'⟩ := hpE.item hj
          refine (ih E' (by omega) v.items[i].items[j] W' cs'' hpE' hv'').mono ?_
          rintro e w' ⟨b, he, hb, hw⟩
          exact ⟨b, he, fun h => Shp.mono (by omega) (hb h), hw⟩))
    have HFI := Lib.hid (fun W (hb : Below w.heap.size w W) => find_any v kSSchema W _ (hvw.up hb))
    unfold kSSchema at HFI
    clear hit hk hv hvw hp ih hkl hk5 hkt
    go_enter Tryz.func12, Tryz.ntmps12
    go_wp2
    go_loopg [12] v.keys.length (fun gk v12 wr => ∃ i : Nat, v12 = .int .i64 i ∧ i + gk = v.keys.length ∧ Hid (∀ j (h : j < v.keys.length) (h' : j < v.items.length), j < i → FitN (Shp D) (shapeN v.keys[j]) v.items[j] ∧ (v.keys[j] = kId → ∃ p, ∃ h : p < v.keys.length, v.keys[p] = kSSchema)) ∧
      Hid (wr.heap[w.heap.size]? = some (.cells #[.int .i64 v.kind, .int .i64 v.num, .string v.text, .slice ka v.keys.length kc, .slice ia v.items.length ic] 25 (0, 0))) ∧ Hid (Below w.heap.size w wr))
    case atStart => exact ⟨0, rfl, by omega, Lib.hid (fun _ _ _ h => absurd h (Nat.not_lt_zero _)), Lib.hid (blk_new w _), Lib.hid (up_alloc (Below.refl _ _) _)⟩
    case round =>
      obtain ⟨i, rfl, hi, HJ, HX, HB⟩ := hrel
      by_cases hlt : i < v.keys.length
      · have hli : i < v.items.length := by have := HKL.out; omega
        obtain ⟨hl, b, o, hb, hc⟩ := HK.out i hlt
        cases hb
        have hc' := cell_up HB.out _ _ hc
        obtain ⟨b', o', ka', ia', kc', ic', hb', h0, h1, h2, h3, h4, hvi⟩ := (HIT.out i).up HB.out hli
        cases hb'
        obtain ⟨key, hs⟩ : ∃ s, v.keys[i] = s := ⟨_, rfl⟩
        have HFX := Lib.hid (HF.out i hli key wr _ hvi)
        obtain ⟨x, hx⟩ : ∃ x, v.items[i] = x := ⟨_, rfl⟩
        rw [hs] at hc'
        rw [hx] at h0 h1 h2 h3 h4 HFX
        have HS := Lib.hid hs
        have HXE := Lib.hid hx
        have i2 : (i : Int) < (v.items.length : Int) := by omega
        have i1 : (i : Int) < (v.keys.length : Int) := by omega
        have i0 : (0 : Int) ≤ (i : Int) := by omega
        clear hs hx hl hc hvi
        have q0 : wr.cell? ⟨w.heap.size, 0, none⟩ = some (.int .i64 v.kind) := (blk_cell HX.out 0).trans rfl
        have q1 : wr.cell? ⟨w.heap.size, 1, none⟩ = some (.int .i64 v.num) := (blk_cell HX.out 1).trans rfl
        have q2 : wr.cell? ⟨w.heap.size, 2, none⟩ = some (.string v.text) := (blk_cell HX.out 2).trans rfl
        have q3 : wr.cell? ⟨w.heap.size, 3, none⟩ = some (.slice (some ⟨b, o, none⟩) v.keys.length kc) := (blk_cell HX.out 3).trans rfl
        have q4 : wr.cell? ⟨w.heap.size, 4, none⟩ = some (.slice (some ⟨b', o', none⟩) v.items.length ic) := (blk_cell HX.out 4).trans rfl
        go_wp2_with fail
        go_at_call 22
        refine HFX.out.mono ?_
        rintro e w1 ⟨bf, rfl, hp1, hb1⟩
        have HB1 := Lib.hid (up_trans HB.out hb1)
        have HX1 := Lib.hid (blk_up HX.out hb1)
        have HP1 := Lib.hid hp1
        clear hp1 hb1 q0 q1 q2 q3 q4 h0 h1 h2 h3 h4 hc'
        cases bf
        · go_wp2
          go_ret
          exact ⟨false, rfl, by simp, HB1.out⟩
        have q0 : w1.cell? ⟨w.heap.size, 0, none⟩ = some (.int .i64 v.kind) := (blk_cell HX1.out 0).trans rfl
        have q1 : w1.cell? ⟨w.heap.size, 1, none⟩ = some (.int .i64 v.num) := (blk_cell HX1.out 1).trans rfl
        have q2 : w1.cell? ⟨w.heap.size, 2, none⟩ = some (.string v.text) := (blk_cell HX1.out 2).trans rfl
        have q3 : w1.cell? ⟨w.heap.size, 3, none⟩ = some (.slice (some ⟨b, o, none⟩) v.keys.length kc) := (blk_cell HX1.out 3).trans rfl
        have q4 : w1.cell? ⟨w.heap.size, 4, none⟩ = some (.slice (some ⟨b', o', none⟩) v.items.length ic) := (blk_cell HX1.out 4).trans rfl
        go_wp2_with fail
        go_at_call 15
        refine (HFI.out _ HB1.out).mono ?_
        rintro e w2 ⟨r, rfl, hr, hb2⟩
        have HB2 := Lib.hid (up_trans HB1.out hb2)
        have HX2 := Lib.hid (blk_up HX1.out hb2)
        have HR := Lib.hid hr
        clear hr hb2 q0 q1 q2 q3 q4
        have q0 : w2.cell? ⟨w.heap.size, 0, none⟩ = some (.int .i64 v.kind) := (blk_cell HX2.out 0).trans rfl
        have q1 : w2.cell? ⟨w.heap.size, 1, none⟩ = some (.int .i64 v.num) := (blk_cell HX2.out 1).trans rfl
        have q2 : w2.cell? ⟨w.heap.size, 2, none⟩ = some (.string v.text) := (blk_cell HX2.out 2).trans rfl
        have q3 : w2.cell? ⟨w.heap.size, 3, none⟩ = some (.slice (some ⟨b, o, none⟩) v.keys.length kc) := (blk_cell HX2.out 3).trans rfl
        have q4 : w2.cell? ⟨w.heap.size, 4, none⟩ = some (.slice (some ⟨b', o', none⟩) v.items.length ic) := (blk_cell HX2.out 4).trans rfl
        rcases bytes_or key kId with ⟨c1, c2⟩ | ⟨c1, c2⟩
        · have C1 : (key.toList == ([105, 100] : List UInt8)) = true := by
            have h := c1
            rw [ByteArray.toList_eq (bs := kId)] at h
            exact h
          have HID := Lib.hid c2
          clear c1 c2
          rcases HR.out with ⟨hr1, _⟩ | ⟨p, hp1, hr1, hr2⟩
          · subst hr1
            go_wp2
            go_ret
            exact ⟨false, rfl, by simp, HB2.out⟩
          · have hpi : p < v.items.length := by have := HKL.out; omega
            obtain ⟨b', o', ka', ia', kc', ic', hb', h0, h1, h2, h3, h4, -⟩ := (HIT.out p).up HB2.out hpi
            cases hb'
            subst hr1
            obtain ⟨y, hy⟩ : ∃ y, v.items[p] = y := ⟨_, rfl⟩
            rw [hy] at h0 h1 h2 h3 h4
            have HR2 := Lib.hid hr2
            have p2 : (p : Int) < (v.items.length : Int) := by omega
            have p0 : (0 : Int) ≤ (p : Int) := by omega
            have p1 : ¬ ((p : Int) < 0) := by omega
            clear hr2 hy HR
            go_wp2_with fail
            go_at_call 23
            refine (isFourth_any _ _).mono ?_
            rintro e w3 ⟨b4, rfl, _, rfl⟩
            cases b4
            · go_wp2
              go_ret
              exact ⟨false, rfl, by simp, HB2.out⟩
            · skip
              go_wp2
              go_roundg (v.keys.length - (i + 1))
              case measure => omega
              case rel =>
                refine ⟨i + 1, by go_num, by omega, Lib.hid (fun j hj hj' hji => ?_), HX2, HB2⟩
                rcases Nat.lt_or_ge j i with h | h
                · exact HJ.out j hj hj' h
                · obtain rfl : j = i := by omega
                  rw [HS.out, HXE.out]
                  exact ⟨HP1.out trivial, fun _ => ⟨p, hp1, HR2.out⟩⟩
        · have C1 : (key.toList == ([105, 100] : List UInt8)) = false := by
            have h := c1
            rw [ByteArray.toList_eq (bs := kId)] at h
            exact h
          have HID := Lib.hid c2
          clear c1 c2
          go_wp2
          go_roundg (v.keys.length - (i + 1))
          case measure => omega
          case rel =>
            refine ⟨i + 1, by go_num, by omega, Lib.hid (fun j hj hj' hji => ?_), HX2, HB2⟩
            rcases Nat.lt_or_ge j i with h | h
            · exact HJ.out j hj hj' h
            · obtain rfl : j = i := by omega
              rw [HS.out, HXE.out]
              exact ⟨HP1.out trivial, fun h => absurd h HID.out⟩
      · have hall : i = v.keys.length := by omega
        have HE := Lib.hid hall
        clear hall
        go_wp2
        go_ret
        exact ⟨true, rfl, fun _ => ⟨HK5.out, fun j hj hj' => HJ.out j hj hj' (by have := HE.out; omega)⟩, HB.out⟩
  · clear hit hk hv hvw hp ih
    go_enter Tryz.func12, Tryz.ntmps12
    go_wp2
    go_ret
    exact ⟨false, rfl, by simp, up_alloc (Below.refl _ _) _⟩

theorem isShape_any (D : Nat) : ∀ (v : Dat) (w : World) (cs : List Value), Plain D v → VA w v cs → Calls Tryz.prog 12 #[.agg cs.toArray] w (SomeBool (Shp (D + 1) v) w) := by
  induction D using Nat.strongRecOn with
  | ind D ih => exact isShape_step D (fun E hE => ih E hE)

theorem IsSchema_any (v : Dat) (w : World) (cs : List Value) (hv : VA w v cs) : Calls Tryz.prog 5 #[.agg cs.toArray] w (SomeBool (Plain 12 v ∧ Shp 13 v) w) := by
  have H1 := Lib.hid (fun W (hb : Below w.heap.size w W) => IsData_any v W cs (hv.up hb))
  have H2 := Lib.hid (fun (hp : Plain 12 v) W (hb : Below w.heap.size w W) => isShape_any 12 v W cs hp (hv.up hb))
  obtain ⟨ka, ia, kc, ic, rfl, -⟩ := hv.inv
  clear hv
  go_enter Tryz.func5, Tryz.ntmps5
  go_wp2_with fail
  go_at_call 11
  refine (H1.out _ (up_alloc (Below.refl _ _) _)).mono ?_
  rintro e w1 ⟨b, rfl, hp, hb⟩
  have HB := Lib.hid (up_trans (up_alloc (Below.refl _ _) _) hb)
  have HX := Lib.hid (blk_up (blk_new w _) hb)
  have HP := Lib.hid hp
  clear hp hb
  have q0 : w1.cell? ⟨w.heap.size, 0, none⟩ = some (.int .i64 v.kind) := (blk_cell HX.out 0).trans rfl
  have q1 : w1.cell? ⟨w.heap.size, 1, none⟩ = some (.int .i64 v.num) := (blk_cell HX.out 1).trans rfl
  have q2 : w1.cell? ⟨w.heap.size, 2, none⟩ = some (.string v.text) := (blk_cell HX.out 2).trans rfl
  have q3 : w1.cell? ⟨w.heap.size, 3, none⟩ = some (.slice ka v.keys.length kc) := (blk_cell HX.out 3).trans rfl
  have q4 : w1.cell? ⟨w.heap.size, 4, none⟩ = some (.slice ia v.items.length ic) := (blk_cell HX.out 4).trans rfl
  cases b
  · go_wp2
    go_ret
    exact ⟨false, rfl, by simp, HB.out⟩
  · go_wp2_with fail
    go_at_call 12
    refine (H2.out (HP.out trivial) _ HB.out).mono ?_
    rintro e w2 ⟨b, rfl, hp, hb⟩
    have HB2 := Lib.hid (up_trans HB.out hb)
    have HP2 := Lib.hid hp
    clear hp hb
    go_wp2
    go_ret
    exact ⟨b, rfl, fun h => ⟨HP.out trivial, HP2.out h⟩, HB2.out⟩
end Go.Proofs.YthdnkcofcbinhaaGreatDoor
