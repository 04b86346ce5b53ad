/- IsPrinted and Same. -/
import Derived.Test.YtkafelcnpnlbfaaDoorSp3
namespace Go.Proofs.YtkafelcnpnlbfaaDoor
open Go.RowKit

/-- What IsPrinted tells. -/
def Shown (v : Dat) : Prop := (v.kind = 4 ∨ v.kind = 5) ∧ Plain 12 v ∧ Prn v

set_option maxHeartbeats 1000000 in
theorem IsPrinted_any (v : Dat) (w : World) (cs : List Value) (hv : VA w v cs) : Calls Tryd.prog 5 #[.agg cs.toArray] w (SomeBool (Shown v) w) := by
  obtain ⟨ka, ia, kc, ic, rfl, _⟩ := hv.inv
  have H1 := Lib.hid (fun W (hb : Below w.heap.size w W) => IsData_any v W _ (hv.up hb))
  have H2 := Lib.hid (fun W (hb : Below w.heap.size w W) => isPrinted_any (SizeOf.sizeOf v + 1) v W _ (by omega) (hv.up hb))
  clear hv
  by_cases hk : v.kind = 4 ∨ v.kind = 5
  · have HKD := Lib.hid hk
    rcases eq_or v.kind 4 with ⟨e4, e4'⟩ | ⟨e4, e4'⟩ <;> rcases eq_or v.kind 5 with ⟨e5, e5'⟩ | ⟨e5, e5'⟩
    · exfalso
      simp at e4 e5
      omega
    · clear hk
      go_enter Tryd.func5, Tryd.ntmps5
      go_wp2_with fail
      refine (H1.out _ (up_alloc (Below.refl _ _) _)).mono ?_
      rintro e w1 ⟨b, rfl, hp, hb⟩
      have HB1 := Lib.hid (up_trans (up_alloc (Below.refl _ _) _) hb)
      have HX := Lib.hid (blk_up (blk_new w _) hb)
      have HP := Lib.hid hp
      clear hp hb
      have c0 : w1.cell? ⟨w.heap.size, 0, none⟩ = some (.int .i64 v.kind) := (blk_cell HX.out 0).trans rfl
      have c1 : w1.cell? ⟨w.heap.size, 1, none⟩ = some (.int .i64 v.num) := (blk_cell HX.out 1).trans rfl
      have c2 : w1.cell? ⟨w.heap.size, 2, none⟩ = some (.string v.text) := (blk_cell HX.out 2).trans rfl
      have c3 : w1.cell? ⟨w.heap.size, 3, none⟩ = some (.slice ka v.keys.length kc) := (blk_cell HX.out 3).trans rfl
      have c4 : w1.cell? ⟨w.heap.size, 4, none⟩ = some (.slice ia v.items.length ic) := (blk_cell HX.out 4).trans rfl
      cases b
      · go_wp2
        go_ret
        exact ⟨false, rfl, by simp, HB1.out⟩
      · go_wp2_with fail
        refine (H2.out _ HB1.out).mono ?_
        rintro e w2 ⟨b2, rfl, hp2, hb⟩
        have HB2 := Lib.hid hb
        have HP2 := Lib.hid hp2
        clear hb hp2
        go_wp2
        go_ret
        exact ⟨b2, rfl, fun h => ⟨HKD.out, HP.out (by simp), HP2.out h⟩, up_trans HB1.out HB2.out⟩
    · clear hk
      go_enter Tryd.func5, Tryd.ntmps5
      go_wp2_with fail
      refine (H1.out _ (up_alloc (Below.refl _ _) _)).mono ?_
      rintro e w1 ⟨b, rfl, hp, hb⟩
      have HB1 := Lib.hid (up_trans (up_alloc (Below.refl _ _) _) hb)
      have HX := Lib.hid (blk_up (blk_new w _) hb)
      have HP := Lib.hid hp
      clear hp hb
      have c0 : w1.cell? ⟨w.heap.size, 0, none⟩ = some (.int .i64 v.kind) := (blk_cell HX.out 0).trans rfl
      have c1 : w1.cell? ⟨w.heap.size, 1, none⟩ = some (.int .i64 v.num) := (blk_cell HX.out 1).trans rfl
      have c2 : w1.cell? ⟨w.heap.size, 2, none⟩ = some (.string v.text) := (blk_cell HX.out 2).trans rfl
      have c3 : w1.cell? ⟨w.heap.size, 3, none⟩ = some (.slice ka v.keys.length kc) := (blk_cell HX.out 3).trans rfl
      have c4 : w1.cell? ⟨w.heap.size, 4, none⟩ = some (.slice ia v.items.length ic) := (blk_cell HX.out 4).trans rfl
      cases b
      · go_wp2
        go_ret
        exact ⟨false, rfl, by simp, HB1.out⟩
      · go_wp2_with fail
        refine (H2.out _ HB1.out).mono ?_
        rintro e w2 ⟨b2, rfl, hp2, hb⟩
        have HB2 := Lib.hid hb
        have HP2 := Lib.hid hp2
        clear hb hp2
        go_wp2
        go_ret
        exact ⟨b2, rfl, fun h => ⟨HKD.out, HP.out (by simp), HP2.out h⟩, up_trans HB1.out HB2.out⟩
    · exfalso
      simp at e4 e5
      omega
  · have e4 : (v.kind == 4) = false := beq_eq_false_iff_ne.mpr (fun h => hk (.inl h))
    have e5 : (v.kind == 5) = false := beq_eq_false_iff_ne.mpr (fun h => hk (.inr h))
    clear hk
    go_enter Tryd.func5, Tryd.ntmps5
    go_wp2
    go_ret
    exact ⟨false, rfl, by simp, up_alloc (Below.refl _ _) _⟩

theorem ret_bool {b c : Bool} (h : b = c) : Ending.returned (.bool b) = .returned (.bool c) := by rw [h]
/-- Whether two Values are one. -/
noncomputable def eqD (a b : Dat) : Bool := @decide (a = b) (Classical.propDecidable _)
theorem eqD_true {a b : Dat} (h : a = b) : eqD a b = true := by unfold eqD; simp [h]
theorem eqD_false {a b : Dat} (h : ¬ a = b) : eqD a b = false := by unfold eqD; simp [h]
theorem eqD_iff {a b : Dat} : eqD a b = true ↔ a = b := by unfold eqD; simp
def IsBool (r : Bool) (w : World) (e : Ending) (w' : World) : Prop := e = .returned (.bool r) ∧ Below w.heap.size w w'
theorem Dat.ext_of {a b : Dat} (h0 : a.kind = b.kind) (h1 : a.num = b.num) (h2 : a.text = b.text) (h3 : a.keys = b.keys) (h4 : a.items = b.items) : a = b := by
  cases a; cases b
  simp only [Dat.kind, Dat.num, Dat.text, Dat.keys, Dat.items] at h0 h1 h2 h3 h4
  subst h0 h1 h2 h3 h4
  rfl
theorem bytes_eq {s t : ByteArray} (h : (s.toList == t.toList) = true) : s = t := by
  have h1 : s.toList = t.toList := by simpa using h
  rw [ByteArray.toList_eq, ByteArray.toList_eq] at h1
  exact ByteArray.ext (Array.ext' h1)
theorem bytes_or (s t : ByteArray) : ((s.toList == t.toList) = true ∧ s = t) ∨ ((s.toList == t.toList) = false ∧ s ≠ t) := by
  cases h : (s.toList == t.toList)
  · exact .inr ⟨rfl, fun e => by simp [e] at h⟩
  · exact .inl ⟨rfl, bytes_eq h⟩
theorem nat_or (m n : Nat) : ((m == n) = true ∧ (m != n) = false ∧ ((m : Int) == (n : Int)) = true ∧ ((m : Int) != (n : Int)) = false ∧ Hid (m = n)) ∨
    ((m == n) = false ∧ (m != n) = true ∧ ((m : Int) == (n : Int)) = false ∧ ((m : Int) != (n : Int)) = true ∧ Hid (m ≠ n)) := by
  by_cases h : m = n
  · exact .inl ⟨beq_iff_eq.mpr h, bne_eq_false_iff_eq.mpr h, beq_iff_eq.mpr (by omega), bne_eq_false_iff_eq.mpr (by omega), h⟩
  · exact .inr ⟨beq_eq_false_iff_ne.mpr h, bne_iff_ne.mpr h, beq_eq_false_iff_ne.mpr (by omega), bne_iff_ne.mpr (by omega), h⟩
theorem int_or (m n : Int) : ((m == n) = true ∧ (m != n) = false ∧ Hid (m = n)) ∨ ((m == n) = false ∧ (m != n) = true ∧ Hid (m ≠ n)) := by
  by_cases h : m = n
  · exact .inl ⟨beq_iff_eq.mpr h, bne_eq_false_iff_eq.mpr h, h⟩
  · exact .inr ⟨beq_eq_false_iff_ne.mpr h, bne_iff_ne.mpr h, h⟩

set_option maxRecDepth 100000 in
set_option maxHeartbeats 4000000 in
theorem Same_any (N : Nat) : ∀ (a b : Dat) (w : World) (cs ds : List Value), SizeOf.sizeOf a < N → VA w a cs → VA w b ds → Calls Tryd.prog 8 #[.agg cs.toArray, .agg ds.toArray] w (IsBool (eqD a b) w) := by
  induction N with
  | zero => intro a b w cs ds h; omega
  | succ N ih =>
    intro a b w cs ds hN ha hb
    obtain ⟨ka, ia, kc, ic, rfl, ht, hk, hkc, hkm, hic, him, hit⟩ := ha.inv
    obtain ⟨kb, ib, kd, id_, rfl, ht2, hk2, hkc2, hkm2, hic2, him2, hit2⟩ := hb.inv
    have IH := Lib.hid ih
    have HIT := Lib.hid hit
    have HIT2 := Lib.hid hit2
    have HK := Lib.hid hk
    have HK2 := Lib.hid hk2
    have HN := Lib.hid hN
    clear ih hit hit2 hk hk2 ha hb hN ht ht2
    rcases int_or a.kind b.kind with ⟨e0, f0, q0⟩ | ⟨e0, f0, q0⟩
    case inr =>
      go_enter Tryd.func8, Tryd.ntmps8
      go_wp2
      go_ret
      exact ⟨ret_bool (eqD_false (fun h => q0.out (by rw [h]))).symm, up_alloc (up_alloc (Below.refl _ _) _) _⟩
    rcases int_or a.num b.num with ⟨e1, f1, q1⟩ | ⟨e1, f1, q1⟩
    case inr =>
      go_enter Tryd.func8, Tryd.ntmps8
      go_wp2
      go_ret
      exact ⟨ret_bool (eqD_false (fun h => q1.out (by rw [h]))).symm, up_alloc (up_alloc (Below.refl _ _) _) _⟩
    rcases bytes_or a.text b.text with ⟨e2, q2⟩ | ⟨e2, q2⟩
    case inr =>
      have Q2 := Lib.hid q2
      clear q2
      go_enter Tryd.func8, Tryd.ntmps8
      go_wp2
      go_ret
      exact ⟨ret_bool (eqD_false (fun h => Q2.out (by rw [h]))).symm, up_alloc (up_alloc (Below.refl _ _) _) _⟩
    have Q2 := Lib.hid q2
    clear q2
    rcases nat_or a.keys.length b.keys.length with ⟨e3, f3, g3, i3, q3⟩ | ⟨e3, f3, g3, i3, q3⟩
    case inr =>
      go_enter Tryd.func8, Tryd.ntmps8
      go_wp2
      go_ret
      exact ⟨ret_bool (eqD_false (fun h => q3.out (by rw [h]))).symm, up_alloc (up_alloc (Below.refl _ _) _) _⟩
    rcases nat_or a.items.length b.items.length with ⟨e4, f4, g4, i4, q4⟩ | ⟨e4, f4, g4, i4, q4⟩
    case inr =>
      go_enter Tryd.func8, Tryd.ntmps8
      go_wp2
      go_ret
      exact ⟨ret_bool (eqD_false (fun h => q4.out (by rw [h]))).symm, up_alloc (up_alloc (Below.refl _ _) _) _⟩
    have L3 := q3
    have L4 := q4
    have l3 : a.keys.length ≤ b.keys.length := by have := L3.out; omega
    have l4 : a.items.length ≤ b.items.length := by have := L4.out; omega
    go_enter Tryd.func8, Tryd.ntmps8
    go_wp2
    go_loopg [47] a.keys.length (fun gk v47 wr => ∃ i : Nat, v47 = .int .i64 i ∧ i + gk = a.keys.length ∧ Hid (∀ j, j < i → a.keys[j]? = b.keys[j]?) ∧
      Hid (wr.heap[w.heap.size]? = some (.cells #[.int .i64 a.kind, .int .i64 a.num, .string a.text, .slice ka a.keys.length kc, .slice ia a.items.length ic] 25 (0, 0))) ∧
      Hid (wr.heap[w.heap.size + 1]? = some (.cells #[.int .i64 b.kind, .int .i64 b.num, .string b.text, .slice kb b.keys.length kd, .slice ib b.items.length id_] 25 (0, 0))) ∧ Hid (Below w.heap.size w wr))
    case atStart => exact ⟨0, rfl, by omega, Lib.hid (fun _ h => absurd h (Nat.not_lt_zero _)), Lib.hid (blk_up (blk_new w _) (up_alloc (Below.refl _ _) _)), Lib.hid (by simpa using blk_new (w.alloc _) _), Lib.hid (up_alloc (up_alloc (Below.refl _ _) _) _)⟩
    case round =>
      obtain ⟨i, rfl, hi, HJ, HA, HB, HW⟩ := hrel
      have a3 : wr.cell? ⟨w.heap.size, 3, none⟩ = some (.slice ka a.keys.length kc) := (blk_cell HA.out 3).trans rfl
      have a4 : wr.cell? ⟨w.heap.size, 4, none⟩ = some (.slice ia a.items.length ic) := (blk_cell HA.out 4).trans rfl
      have b3 : wr.cell? ⟨w.heap.size + 1, 3, none⟩ = some (.slice kb b.keys.length kd) := (blk_cell HB.out 3).trans rfl
      by_cases hlt : i < a.keys.length
      · obtain ⟨hsz, x, o, hx, hc⟩ := (HK.out.up HW.out) i hlt
        obtain ⟨hsz2, y, o2, hy, hc2⟩ := (HK2.out.up HW.out) i (by omega)
        cases hx
        cases hy
        obtain ⟨s, hs⟩ : ∃ s, a.keys[i] = s := ⟨_, rfl⟩
        obtain ⟨t, ht⟩ : ∃ t, b.keys[i]'(by omega) = t := ⟨_, rfl⟩
        rw [hs] at hc
        rw [ht] at hc2
        have HS := Lib.hid hs
        have HT := Lib.hid ht
        clear hs ht hsz hsz2
        have i0 : (0 : Int) ≤ (i : Int) := by omega
        have i1 : (i : Int) < (a.keys.length : Int) := by omega
        have i2 : (i : Int) < (b.keys.length : Int) := by omega
        have i3 : i < b.keys.length := by omega
        rcases bytes_or s t with ⟨g0, g1⟩ | ⟨g0, g1⟩
        · have G := Lib.hid g1
          clear g1
          go_wp2
          go_quiet (fail)
          go_wp2
          go_roundg (a.keys.length - (i + 1))
          case measure => omega
          case rel =>
            refine ⟨i + 1, by go_num, by omega, Lib.hid (fun j hj => ?_), HA, HB, Lib.hid (up_drewN HW.out _)⟩
            rcases Nat.lt_or_ge j i with h | h
            · exact HJ.out j h
            · obtain rfl : j = i := by omega
              rw [List.getElem?_eq_getElem hlt, List.getElem?_eq_getElem i3, HS.out, HT.out, G.out]
        · have G := Lib.hid g1
          clear g1
          go_wp2
          go_quiet (fail)
          go_wp2
          go_ret
          exact ⟨ret_bool (eqD_false (fun h => by subst h; exact G.out (HS.out.symm.trans HT.out))).symm, up_drewN HW.out _⟩
      · have HKS : Hid (a.keys = b.keys) := Lib.hid (by
          apply List.ext_getElem?
          intro j
          rcases Nat.lt_or_ge j i with h | h
          · exact HJ.out j h
          · rw [List.getElem?_eq_none (by omega), List.getElem?_eq_none (by have := L3.out; omega)])
        clear HJ
        go_wp2
        go_loopg [65] a.items.length (fun gk v65 wr => ∃ i : Nat, v65 = .int .i64 i ∧ i + gk = a.items.length ∧ Hid (∀ j, j < i → a.items[j]? = b.items[j]?) ∧
          Hid (wr.heap[w.heap.size]? = some (.cells #[.int .i64 a.kind, .int .i64 a.num, .string a.text, .slice ka a.keys.length kc, .slice ia a.items.length ic] 25 (0, 0))) ∧
          Hid (wr.heap[w.heap.size + 1]? = some (.cells #[.int .i64 b.kind, .int .i64 b.num, .string b.text, .slice kb b.keys.length kd, .slice ib b.items.length id_] 25 (0, 0))) ∧ Hid (Below w.heap.size w wr))
        case atStart => exact ⟨0, rfl, by omega, Lib.hid (fun _ h => absurd h (Nat.not_lt_zero _)), HA, HB, HW⟩
        case round =>
          clear a3 a4 b3 HA HB HW
          obtain ⟨i, rfl, hi, HJ, HA, HB, HW⟩ := hrel
          have a4 : wr.cell? ⟨w.heap.size, 4, none⟩ = some (.slice ia a.items.length ic) := (blk_cell HA.out 4).trans rfl
          have b4 : wr.cell? ⟨w.heap.size + 1, 4, none⟩ = some (.slice ib b.items.length id_) := (blk_cell HB.out 4).trans rfl
          by_cases hlt2 : i < a.items.length
          · have i3 : i < b.items.length := by omega
            obtain ⟨bx, o, k1, k2, k3, k4, hx, h0, h1, h2, h3, h4, hvx⟩ := (HIT.out i).up HW.out hlt2
            obtain ⟨by_, o2, m1, m2, m3, m4, hy, g0, g1, g2, g3, g4, hvy⟩ := (HIT2.out i).up HW.out i3
            cases hx
            cases hy
            have hlt' := Dat.get_lt hlt2
            obtain ⟨x, hx⟩ : ∃ x, a.items[i] = x := ⟨_, rfl⟩
            obtain ⟨y, hy⟩ : ∃ y, b.items[i] = y := ⟨_, rfl⟩
            rw [hx] at h0 h1 h2 h3 h4 hvx hlt'
            rw [hy] at g0 g1 g2 g3 g4 hvy
            have HXE := Lib.hid hx
            have HYE := Lib.hid hy
            clear hx hy
            have HC := Lib.hid (fun W (hb : Below wr.heap.size wr W) => IH.out x y W _ _ (by have := HN.out; omega) (hvx.up hb) (hvy.up hb))
            clear hvx hvy hlt'
            have i0 : (0 : Int) ≤ (i : Int) := by omega
            have i1 : (i : Int) < (a.items.length : Int) := by omega
            have i2 : (i : Int) < (b.items.length : Int) := by omega
            by_cases hq : x = y
            · rw [eqD_true hq] at HC
              have HQ := Lib.hid hq
              clear hq
              go_wp2
              go_region_held3 (fun w' => Below wr.heap.size wr w' ∧ w'.cell? ⟨w.heap.size, 4, none⟩ = some (.slice (some ⟨bx, o, none⟩) a.items.length ic) ∧ w'.cell? ⟨w.heap.size + 1, 4, none⟩ = some (.slice (some ⟨by_, o2, none⟩) b.items.length id_) ∧
                  w'.cell? ⟨bx, o + i * 5, none⟩ = some (.int .i64 x.kind) ∧ w'.cell? ⟨bx, o + i * 5 + 1, none⟩ = some (.int .i64 x.num) ∧ w'.cell? ⟨bx, o + i * 5 + 2, none⟩ = some (.string x.text) ∧
                  w'.cell? ⟨bx, o + i * 5 + 3, none⟩ = some (.slice k1 x.keys.length k3) ∧ w'.cell? ⟨bx, o + i * 5 + 4, none⟩ = some (.slice k2 x.items.length k4) ∧
                  w'.cell? ⟨by_, o2 + i * 5, none⟩ = some (.int .i64 y.kind) ∧ w'.cell? ⟨by_, o2 + i * 5 + 1, none⟩ = some (.int .i64 y.num) ∧ w'.cell? ⟨by_, o2 + i * 5 + 2, none⟩ = some (.string y.text) ∧
                  w'.cell? ⟨by_, o2 + i * 5 + 3, none⟩ = some (.slice m1 y.keys.length m3) ∧ w'.cell? ⟨by_, o2 + i * 5 + 4, none⟩ = some (.slice m2 y.items.length m4))
                (first
                  | exact ⟨up_drew (Below.refl _ _), a4, b4, h0, h1, h2, h3, h4, g0, g1, g2, g3, g4⟩
                  | (have hup := up_trans (up_drew (Below.refl _ _)) hbr
                     exact ⟨hup, cell_up hup _ _ a4, cell_up hup _ _ b4, cell_up hup _ _ h0, cell_up hup _ _ h1, cell_up hup _ _ h2, cell_up hup _ _ h3, cell_up hup _ _ h4, cell_up hup _ _ g0, cell_up hup _ _ g1, cell_up hup _ _ g2, cell_up hup _ _ g3, cell_up hup _ _ g4⟩))
                ((go_at_call 8; refine (HC.out _ (up_drew (Below.refl _ _))).mono ?_; rintro e w1 ⟨rfl, hbr⟩))
              clear a4 b4 h0 h1 h2 h3 h4 g0 g1 g2 g3 g4
              have HUP := Lib.hid (up_trans (up_drew (Below.refl _ _)) hbr)
              clear hbr
              go_wp2
              go_roundg (a.items.length - (i + 1))
              case measure => omega
              case rel =>
                refine ⟨i + 1, by go_num, by omega, Lib.hid (fun j hj => ?_), Lib.hid (blk_up HA.out HUP.out), Lib.hid (blk_up HB.out HUP.out), Lib.hid (up_trans HW.out HUP.out)⟩
                rcases Nat.lt_or_ge j i with h | h
                · exact HJ.out j h
                · obtain rfl : j = i := by omega
                  rw [List.getElem?_eq_getElem hlt2, List.getElem?_eq_getElem i3, HXE.out, HYE.out, HQ.out]
            · rw [eqD_false hq] at HC
              have HQ := Lib.hid hq
              clear hq
              go_wp2
              go_region_held3 (fun w' => Below wr.heap.size wr w' ∧ w'.cell? ⟨w.heap.size, 4, none⟩ = some (.slice (some ⟨bx, o, none⟩) a.items.length ic) ∧ w'.cell? ⟨w.heap.size + 1, 4, none⟩ = some (.slice (some ⟨by_, o2, none⟩) b.items.length id_) ∧
                  w'.cell? ⟨bx, o + i * 5, none⟩ = some (.int .i64 x.kind) ∧ w'.cell? ⟨bx, o + i * 5 + 1, none⟩ = some (.int .i64 x.num) ∧ w'.cell? ⟨bx, o + i * 5 + 2, none⟩ = some (.string x.text) ∧
                  w'.cell? ⟨bx, o + i * 5 + 3, none⟩ = some (.slice k1 x.keys.length k3) ∧ w'.cell? ⟨bx, o + i * 5 + 4, none⟩ = some (.slice k2 x.items.length k4) ∧
                  w'.cell? ⟨by_, o2 + i * 5, none⟩ = some (.int .i64 y.kind) ∧ w'.cell? ⟨by_, o2 + i * 5 + 1, none⟩ = some (.int .i64 y.num) ∧ w'.cell? ⟨by_, o2 + i * 5 + 2, none⟩ = some (.string y.text) ∧
                  w'.cell? ⟨by_, o2 + i * 5 + 3, none⟩ = some (.slice m1 y.keys.length m3) ∧ w'.cell? ⟨by_, o2 + i * 5 + 4, none⟩ = some (.slice m2 y.items.length m4))
                (first
                  | exact ⟨up_drew (Below.refl _ _), a4, b4, h0, h1, h2, h3, h4, g0, g1, g2, g3, g4⟩
                  | (have hup := up_trans (up_drew (Below.refl _ _)) hbr
                     exact ⟨hup, cell_up hup _ _ a4, cell_up hup _ _ b4, cell_up hup _ _ h0, cell_up hup _ _ h1, cell_up hup _ _ h2, cell_up hup _ _ h3, cell_up hup _ _ h4, cell_up hup _ _ g0, cell_up hup _ _ g1, cell_up hup _ _ g2, cell_up hup _ _ g3, cell_up hup _ _ g4⟩))
                ((go_at_call 8; refine (HC.out _ (up_drew (Below.refl _ _))).mono ?_; rintro e w1 ⟨rfl, hbr⟩))
              clear a4 b4 h0 h1 h2 h3 h4 g0 g1 g2 g3 g4
              have HUP := Lib.hid (up_trans (up_drew (Below.refl _ _)) hbr)
              clear hbr
              go_wp2
              go_ret
              exact ⟨ret_bool (eqD_false (fun h => by subst h; exact HQ.out (HXE.out.symm.trans HYE.out))).symm, up_trans HW.out HUP.out⟩
          · have HIS : Hid (a.items = b.items) := Lib.hid (by
              apply List.ext_getElem?
              intro j
              rcases Nat.lt_or_ge j i with h | h
              · exact HJ.out j h
              · rw [List.getElem?_eq_none (by omega), List.getElem?_eq_none (by have := L4.out; omega)])
            clear HJ
            go_wp2
            go_ret
            exact ⟨ret_bool (eqD_true (Dat.ext_of q0.out q1.out Q2.out HKS.out HIS.out)).symm, HW.out⟩
end Go.Proofs.YtkafelcnpnlbfaaDoor
