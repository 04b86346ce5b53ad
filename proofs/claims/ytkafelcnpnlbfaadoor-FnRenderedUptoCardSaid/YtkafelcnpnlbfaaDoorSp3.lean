/- The reference's functions over whole Values, the rest. -/
import Derived.Test.YtkafelcnpnlbfaaDoorSp2
import Derived.Deep.RegionHeld3
namespace Go.Proofs.YtkafelcnpnlbfaaDoor
open Go.RowKit

theorem isPlain_any (D : Nat) (hD : D ≤ 12) : ∀ (v : Dat) (w : World) (cs : List Value), VA w v cs → Calls Tryd.prog 16 #[.agg cs.toArray, .int .i64 D] w (SomeBool (Plain D v) w) := by
  induction D with
  | zero => exact isPlain_step 0 hD (fun D' h => by omega)
  | succ D ih => exact isPlain_step (D + 1) hD (fun D' h => by obtain rfl : D' = D := by omega
                                                               exact ih (by omega))

set_option maxHeartbeats 1000000 in
theorem IsData_any (v : Dat) (w : World) (cs : List Value) (hv : VA w v cs) : Calls Tryd.prog 10 #[.agg cs.toArray] w (SomeBool (Plain 12 v) w) := by
  obtain ⟨ka, ia, kc, ic, rfl, _⟩ := hv.inv
  have H1 := Lib.hid (fun W (hb : Below w.heap.size w W) => isPlain_any 12 (by omega) v W _ (hv.up hb))
  have H2 := Lib.hid (fun W (hb : Below w.heap.size w W) => size_any (SizeOf.sizeOf v + 1) v W _ (by omega) (hv.up hb))
  clear hv
  go_enter Tryd.func10, Tryd.ntmps10
  go_wp2_with fail
  refine (H1.out _ (up_alloc (Below.refl _ _) _)).mono ?_
  rintro e w1 ⟨b, rfl, hp, hb⟩
  have HB1 := Lib.hid (up_trans (up_alloc (Below.refl _ _) _) hb)
  have HX := Lib.hid (blk_up (blk_new w _) hb)
  have HP := Lib.hid hp
  clear hp hb
  have c0 : w1.cell? ⟨w.heap.size, 0, none⟩ = some (.int .i64 v.kind) := (blk_cell HX.out 0).trans rfl
  have c1 : w1.cell? ⟨w.heap.size, 1, none⟩ = some (.int .i64 v.num) := (blk_cell HX.out 1).trans rfl
  have c2 : w1.cell? ⟨w.heap.size, 2, none⟩ = some (.string v.text) := (blk_cell HX.out 2).trans rfl
  have c3 : w1.cell? ⟨w.heap.size, 3, none⟩ = some (.slice ka v.keys.length kc) := (blk_cell HX.out 3).trans rfl
  have c4 : w1.cell? ⟨w.heap.size, 4, none⟩ = some (.slice ia v.items.length ic) := (blk_cell HX.out 4).trans rfl
  cases b
  · go_wp2
    go_ret
    exact ⟨false, rfl, by simp, HB1.out⟩
  · go_wp2_with fail
    refine (H2.out _ HB1.out).mono ?_
    rintro e w2 ⟨n, rfl, hb⟩
    have HB2 := Lib.hid hb
    clear hb
    go_wp2
    go_ret
    exact ⟨_, rfl, fun _ => HP.out (by simp), up_trans HB1.out HB2.out⟩

/-- What isPrinted tells. -/
inductive Prn : Dat → Prop
  | mk (v : Dat) (h0 : v.kind ≠ 0) (h2 : v.kind ≠ 2) (h6 : v.kind ≠ 6) (h3 : v.kind = 3 → Easy v.text)
      (hk : v.kind ≠ 3 → ∀ i (h : i < v.keys.length), Easy v.keys[i]) (hi : v.kind ≠ 3 → ∀ i (h : i < v.items.length), Prn v.items[i])
      (hl : v.kind = 4 → ∀ i (h : i < v.items.length), v.items[i].kind ≠ 4) : Prn v

set_option maxRecDepth 100000 in
set_option maxHeartbeats 2000000 in
theorem isPrinted_any (N : Nat) : ∀ (v : Dat) (w : World) (cs : List Value), SizeOf.sizeOf v < N → VA w v cs → Calls Tryd.prog 11 #[.agg cs.toArray] w (SomeBool (Prn v) w) := by
  induction N with
  | zero => intro v w cs h; omega
  | succ N ih =>
    intro v w cs hN hv
    obtain ⟨ka, ia, kc, ic, rfl, ht, hk, hkc, hkm, hic, him, hit⟩ := hv.inv
    have IH := Lib.hid ih
    have HIT := Lib.hid hit
    have HK := Lib.hid hk
    have HN := Lib.hid hN
    clear ih hit hk hv hN
    by_cases k0 : v.kind = 0
    · rw [k0]
      clear k0
      go_enter Tryd.func11, Tryd.ntmps11
      go_wp2
      go_ret
      exact ⟨false, rfl, by simp, up_alloc (Below.refl _ _) _⟩
    by_cases k2 : v.kind = 2
    · rw [k2]
      clear k2 k0
      go_enter Tryd.func11, Tryd.ntmps11
      go_wp2
      go_ret
      exact ⟨false, rfl, by simp, up_alloc (Below.refl _ _) _⟩
    by_cases k6 : v.kind = 6
    · rw [k6]
      clear k6 k2 k0
      go_enter Tryd.func11, Tryd.ntmps11
      go_wp2
      go_ret
      exact ⟨false, rfl, by simp, up_alloc (Below.refl _ _) _⟩
    have HK0 := Lib.hid k0
    have HK2 := Lib.hid k2
    have HK6 := Lib.hid k6
    by_cases k3 : v.kind = 3
    · have K3 := Lib.hid k3
      rw [k3]
      clear k6 k2 k0 k3
      go_enter Tryd.func11, Tryd.ntmps11
      go_wp2_with (go_at_call 18; refine (isEasy_any v.text _ ht).mono ?_; rintro e w' ⟨b, rfl, hp, rfl⟩; have HE := Lib.hid hp; clear hp)
      go_ret
      exact ⟨b, rfl, fun h => .mk v HK0.out HK2.out HK6.out (fun _ => HE.out h) (fun h => absurd K3.out h) (fun h => absurd K3.out h) (fun h => absurd (K3.out.symm.trans h) (by omega)), up_alloc (Below.refl _ _) _⟩
    have HK3 := Lib.hid k3
    have e0 : (v.kind == 0) = false := beq_eq_false_iff_ne.mpr k0
    have e2 : (v.kind == 2) = false := beq_eq_false_iff_ne.mpr k2
    have e6 : (v.kind == 6) = false := beq_eq_false_iff_ne.mpr k6
    have e3 : (v.kind == 3) = false := beq_eq_false_iff_ne.mpr k3
    clear k0 k2 k6 k3
    rcases eq_or v.kind 4 with ⟨e4, e4'⟩ | ⟨e4, e4'⟩
    all_goals
      have E4 := Lib.hid e4
      go_enter Tryd.func11, Tryd.ntmps11
      go_wp2
      go_loopg [21] v.keys.length (fun gk v21 wr => ∃ i : Nat, v21 = .int .i64 i ∧ i + gk = v.keys.length ∧ Hid (∀ j (h : j < v.keys.length), j < i → Easy v.keys[j]) ∧
        wr = w.alloc (.cells #[.int .i64 v.kind, .int .i64 v.num, .string v.text, .slice ka v.keys.length kc, .slice ia v.items.length ic] 25))
      case atStart => exact ⟨0, rfl, by omega, Lib.hid (fun _ _ h => absurd h (Nat.not_lt_zero _)), rfl⟩
      case round =>
        obtain ⟨i, rfl, hi, HJ, hwr⟩ := hrel
        have HW : Hid (Below w.heap.size w wr) := Lib.hid (by rw [hwr]; exact up_alloc (Below.refl _ _) _)
        have HX : Hid (wr.heap[w.heap.size]? = some (.cells #[.int .i64 v.kind, .int .i64 v.num, .string v.text, .slice ka v.keys.length kc, .slice ia v.items.length ic] 25 (0, 0))) := Lib.hid (by rw [hwr]; exact blk_new w _)
        have HWR := Lib.hid hwr
        clear hwr
        have c0 : wr.cell? ⟨w.heap.size, 0, none⟩ = some (.int .i64 v.kind) := (blk_cell HX.out 0).trans rfl
        have c4 : wr.cell? ⟨w.heap.size, 4, none⟩ = some (.slice ia v.items.length ic) := (blk_cell HX.out 4).trans rfl
        by_cases hlt : i < v.keys.length
        · obtain ⟨hsz, b, o, hb, hc⟩ := (HK.out.up HW.out) i hlt
          cases hb
          obtain ⟨s, hs⟩ : ∃ s, v.keys[i] = s := ⟨_, rfl⟩
          rw [hs] at hc hsz
          have HS := Lib.hid hs
          clear hs
          have hsz' : s.size ≤ 9223372036854775807 := by simpa [maxLen] using hsz
          clear hsz
          go_wp2_with fail
          refine (isEasy_any s _ hsz').mono ?_
          rintro e w' ⟨bw, rfl, hp, rfl⟩
          have HE := Lib.hid hp
          clear hp
          cases bw
          · go_wp2
            go_ret
            exact ⟨false, rfl, by simp, HW.out⟩
          · go_wp2
            go_roundg (v.keys.length - (i + 1))
            case measure => omega
            case rel =>
              refine ⟨i + 1, by go_num, by omega, Lib.hid (fun j hj hji => ?_), HWR.out⟩
              rcases Nat.lt_or_ge j i with h | h
              · exact HJ.out j hj h
              · obtain rfl : j = i := by omega
                rw [HS.out]
                exact HE.out (by simp)
        · have HALLK : Hid (∀ j (h : j < v.keys.length), Easy v.keys[j]) := Lib.hid (fun j hj => HJ.out j hj (by omega))
          clear HWR HJ
          go_wp2
          go_loopg [32] v.items.length (fun gk v32 wr => ∃ i : Nat, v32 = .int .i64 i ∧ i + gk = v.items.length ∧ Hid (∀ j (h : j < v.items.length), j < i → Prn v.items[j] ∧ (v.kind = 4 → v.items[j].kind ≠ 4)) ∧
            Hid (wr.heap[w.heap.size]? = some (.cells #[.int .i64 v.kind, .int .i64 v.num, .string v.text, .slice ka v.keys.length kc, .slice ia v.items.length ic] 25 (0, 0))) ∧ Hid (Below w.heap.size w wr))
          case atStart => exact ⟨0, rfl, by omega, Lib.hid (fun _ _ h => absurd h (Nat.not_lt_zero _)), HX, HW⟩
          case round =>
            clear c0 c4 HX HW
            obtain ⟨i, rfl, hi, HJ, HX, HW⟩ := hrel
            by_cases hlt2 : i < v.items.length
            · obtain ⟨b, o, ka', ia', kc', ic', hb, h0, h1, h2, h3, h4, hvi⟩ := (HIT.out i).up HW.out hlt2
              cases hb
              have hlt' := Dat.get_lt hlt2
              obtain ⟨x, hx⟩ : ∃ x, v.items[i] = x := ⟨_, rfl⟩
              rw [hx] at h0 h1 h2 h3 h4 hvi hlt'
              have HXE := Lib.hid hx
              clear hx
              have HC := Lib.hid (fun W (hb : Below wr.heap.size wr W) => IH.out x W _ (by have := HN.out; omega) (hvi.up hb))
              clear hvi hlt'
              go_wp2_with fail
              refine (HC.out _ (up_alloc (Below.refl _ _) _)).mono ?_
              rintro e w1 ⟨bb, rfl, hp, hb1⟩
              have HP1 := Lib.hid hp
              have HY := Lib.hid (blk_up (blk_new wr _) hb1)
              have HB1 := Lib.hid (up_trans (up_alloc (Below.refl _ _) _) hb1)
              have HX1 := Lib.hid (blk_up HX.out HB1.out)
              clear hp hb1
              have c0 : w1.cell? ⟨w.heap.size, 0, none⟩ = some (.int .i64 v.kind) := (blk_cell HX1.out 0).trans rfl
              have d0 : w1.cell? ⟨wr.heap.size, 0, none⟩ = some (.int .i64 x.kind) := (blk_cell HY.out 0).trans rfl
              cases bb
              · go_wp2
                go_ret
                exact ⟨false, rfl, by simp, up_trans HW.out HB1.out⟩
              · rcases eq_or x.kind 4 with ⟨f4, f4'⟩ | ⟨f4, f4'⟩
                all_goals
                  have F4 := Lib.hid f4
                  go_wp2
                  first
                    | (go_ret
                       exact ⟨false, rfl, by simp, up_trans HW.out HB1.out⟩)
                    | (go_roundg (v.items.length - (i + 1))
                       case measure => omega
                       case rel =>
                         refine ⟨i + 1, by go_num, by omega, Lib.hid (fun j hj hji => ?_), HX1, Lib.hid (up_trans HW.out HB1.out)⟩
                         rcases Nat.lt_or_ge j i with h | h
                         · exact HJ.out j hj h
                         · obtain rfl : j = i := by omega
                           rw [HXE.out]
                           refine ⟨HP1.out (by simp), fun hk4 hx4 => ?_⟩
                           have g1 := E4.out
                           have g2 := F4.out
                           simp [hk4] at g1
                           try simp [hx4] at g2)
            · have HALLI : Hid (∀ j (h : j < v.items.length), Prn v.items[j] ∧ (v.kind = 4 → v.items[j].kind ≠ 4)) := Lib.hid (fun j hj => HJ.out j hj (by omega))
              go_wp2
              go_ret
              exact ⟨true, rfl, fun _ => .mk v HK0.out HK2.out HK6.out (fun h => absurd h HK3.out) (fun _ => HALLK.out) (fun _ j hj => (HALLI.out j hj).1) (fun h j hj => (HALLI.out j hj).2 h), HW.out⟩
end Go.Proofs.YtkafelcnpnlbfaaDoor
