/- The reference's functions over whole Values. -/
import Derived.Test.YthdnkcofcbinhaaGreatDoorValJ
import Derived.Deep.Cut
import Derived.Deep.CutRange
import Derived.Deep.Light
set_option linter.unusedVariables false
set_option linter.unusedSimpArgs false
namespace Go.Proofs.YthdnkcofcbinhaaGreatDoor
open Go.RowKit

set_option maxHeartbeats 1000000 in
theorem size_any (N : Nat) : ∀ (v : Dat) (w : World) (cs : List Value), SizeOf.sizeOf v < N → VA w v cs → Calls Tryz.prog 21 #[.agg cs.toArray] w (SomeInt w) := by
  induction N with
  | zero => intro v w cs h; omega
  | succ N ih =>
    intro v w cs hN hv
    obtain ⟨ka, ia, kc, ic, rfl, ht, hk, hkc, hkm, hic, him, hit⟩ := hv.inv
    have IH := Lib.hid ih
    have HIT := Lib.hid hit
    clear ih hit hk hv ht hkc hkm
    have HN := Lib.hid hN
    clear hN
    go_enter Tryz.func21, Tryz.ntmps21
    go_wp2
    go_loopg [3, 9] v.items.length (fun gk v3 v9 wr => ∃ (i : Nat) (m : Int), v3 = .int .i64 m ∧ v9 = .int .i64 i ∧ i + gk = v.items.length ∧ Hid (Below w.heap.size w wr))
    case atStart => exact ⟨0, 1, rfl, rfl, by omega, Lib.hid (up_alloc (Below.refl _ _) _)⟩
    case round =>
      obtain ⟨i, m, rfl, rfl, hi, HB⟩ := hrel
      by_cases hlt : i < v.items.length
      · obtain ⟨b, o, ka', ia', kc', ic', hb, h0, h1, h2, h3, h4, hvi⟩ := (HIT.out i).up HB.out hlt
        cases hb
        have hlt' := Dat.get_lt hlt
        generalize v.items[i] = x at *
        have HX := Lib.hid (fun W (hb : Below wr.heap.size wr W) => IH.out x W _ (by have := HN.out; omega) (hvi.up hb))
        clear hvi hlt'
        go_wp2_with (go_at_call 21; refine (HX.out _ (up_alloc (Below.refl _ _) _)).mono ?_; rintro e w' ⟨n, rfl, hb1⟩; have HB1 := Lib.hid hb1; clear hb1)
        go_roundg (v.items.length - (i + 1))
        case measure => omega
        case rel => exact ⟨i + 1, wrap64 (m + n), rfl, by go_num, by omega, Lib.hid (up_trans HB.out (up_trans (up_alloc (Below.refl _ _) _) HB1.out))⟩
      · go_wp2
        go_ret
        exact ⟨m, rfl, HB.out⟩

/-- The empty text, no keys, no items. -/
def NoText (v : Dat) : Prop := v.text = ByteArray.empty
def NoParts (v : Dat) : Prop := v.keys = [] ∧ v.items = []
/-- Keys of words, each behind the one before. -/
def KeysTo (v : Dat) (k : Nat) : Prop := ∀ i (h : i < v.keys.length), i < k → Wordy v.keys[i] ∧ (∀ hp : 0 < i, Op.bytesLess v.keys[i - 1].toList v.keys[i].toList = true)
theorem KeysTo.succ {v : Dat} {i : Nat} (h : KeysTo v i) (hw : ∀ h : i < v.keys.length, Wordy v.keys[i]) (hl : ∀ (h : i < v.keys.length) (_ : i - 1 < v.keys.length) (_ : 0 < i), Op.bytesLess v.keys[i - 1].toList v.keys[i].toList = true) : KeysTo v (i + 1) := by
  intro j hj hji
  rcases Nat.lt_or_ge j i with h1 | h1
  · exact h j hj h1
  · obtain rfl : j = i := by omega
    exact ⟨hw hj, fun hp => hl hj (by omega) hp⟩
theorem less_or : ∀ (x y : List UInt8), (Op.bytesLess x y || x == y) = false → Op.bytesLess y x = true
  | [], [], h => by simp [Op.bytesLess] at h
  | [], _ :: _, h => by simp [Op.bytesLess] at h
  | _ :: _, [], _ => by simp [Op.bytesLess]
  | a :: x, b :: y, h => by
    simp only [Op.bytesLess, Bool.or_eq_false_iff, Bool.and_eq_false_iff, decide_eq_false_iff_not, beq_eq_false_iff_ne, ne_eq, List.cons.injEq, not_and] at h
    simp only [Op.bytesLess, Bool.or_eq_true, Bool.and_eq_true, decide_eq_true_eq, beq_iff_eq]
    obtain ⟨⟨h1, h2⟩, h3⟩ := h
    by_cases hab : a = b
    · right
      refine ⟨hab.symm, less_or x y ?_⟩
      have h4 : Op.bytesLess x y = false := h2.resolve_left (fun h => h hab)
      simp [h4, h3 hab]
    · left
      have h5 : ¬ a.toNat < b.toNat := h1
      have h6 : a.toNat ≠ b.toNat := fun h => hab (UInt8.toNat_inj.mp h)
      exact UInt8.lt_iff_toNat_lt.mpr (by omega)
theorem less_of_not_le {s t : ByteArray} (h : (Op.bytesLess s.toList t.toList || s.toList == t.toList) = false) : Op.bytesLess t.toList s.toList = true := less_or _ _ h

/-- What isPlain tells of a value that is no list and no map. -/
def Flat (v : Dat) : Prop := (v.kind = 0 ∧ v.num = 0 ∧ NoText v ∧ NoParts v) ∨ (v.kind = 1 ∧ (v.num = 0 ∨ v.num = 1) ∧ NoText v ∧ NoParts v) ∨ (v.kind = 2 ∧ -1000000000 < v.num ∧ v.num < 1000000000 ∧ NoText v ∧ NoParts v) ∨
      (v.kind = 6 ∧ -1000000000 < v.num ∧ v.num < 1000000000 ∧ v.num.tmod 4 ≠ 0 ∧ NoText v ∧ NoParts v) ∨ (v.kind = 3 ∧ v.num = 0 ∧ Wordy v.text ∧ NoParts v)
def PList (P : Dat → Prop) (v : Dat) : Prop := v.kind = 4 ∧ v.num = 0 ∧ NoText v ∧ v.keys = [] ∧ v.items.length ≤ 60 ∧ ∀ i (h : i < v.items.length), P v.items[i]
def PMap (P : Dat → Prop) (v : Dat) : Prop := v.kind = 5 ∧ v.num = 0 ∧ NoText v ∧ v.keys.length = v.items.length ∧ v.items.length ≤ 60 ∧ KeysTo v v.keys.length ∧ ∀ i (h : i < v.items.length), P v.items[i]
/-- What isPlain tells. -/
def Plain : Nat → Dat → Prop
  | 0, v => Flat v
  | d + 1, v => Flat v ∨ PList (Plain d) v ∨ PMap (Plain d) v
theorem Plain.flat {D : Nat} {v : Dat} (h : Flat v) : Plain D v := by cases D with | zero => exact h | succ D => exact .inl h

theorem noText {v : Dat} (h : v.text.toList.isEmpty = true) : NoText v := by
  unfold NoText
  have h1 : v.text.toList = [] := by simpa using h
  apply ByteArray.ext
  apply Array.ext'
  have h2 : v.text.toList = v.text.data.toList := by simp [ByteArray.toList_eq] 
  rw [← h2, h1]
  rfl

set_option maxRecDepth 100000 in
set_option maxHeartbeats 2000000 in
theorem isPlain_step (D : Nat) (hD : D ≤ 12) (ih : ∀ D', D' + 1 = D → ∀ (v : Dat) (w : World) (cs : List Value), VA w v cs → Calls Tryz.prog 20 #[.agg cs.toArray, .int .i64 D'] w (SomeBool (Plain D' v) w)) :
    ∀ (v : Dat) (w : World) (cs : List Value), VA w v cs → Calls Tryz.prog 20 #[.agg cs.toArray, .int .i64 D] w (SomeBool (Plain D v) w) := by
  intro v w cs hv
  obtain ⟨ka, ia, kc, ic, rfl, ht, hk, hkc, hkm, hic, him, hit⟩ := hv.inv
  have IH := Lib.hid ih
  have HIT := Lib.hid hit
  have HK := Lib.hid hk
  clear ih hit hk hv
  go_enter Tryz.func20, Tryz.ntmps20
  go_upto_region 1 with fail
  go_cut [5, 6, 7] from 12 to 27 (fun a b c wc => ∃ bn bt bp : Bool, a = .bool bn ∧ b = .bool bt ∧ c = .bool bp ∧ Hid ((bn = true → v.num = 0) ∧ (bt = true → NoText v) ∧ (bp = true → NoParts v)) ∧
    Hid (wc.heap[w.heap.size]? = some (.cells #[.int .i64 v.kind, .int .i64 v.num, .string v.text, .slice ka v.keys.length kc, .slice ia v.items.length ic] 25 (0, 0))) ∧ Hid (Below w.heap.size w wc))
  case first =>
    have hb1 : ((v.keys.length : Int) == 0) = true ∨ ((v.keys.length : Int) == 0) = false := by cases ((v.keys.length : Int) == 0) <;> simp
    rcases hb1 with hb1 | hb1
    · have HK0 := Lib.hid hb1
      go_quiet (fail)
      go_wp2
      go_meet
      case rel =>
        go_light
        refine ⟨_, _, _, rfl, rfl, rfl, Lib.hid ⟨fun h => by simpa using h, noText, fun h => ⟨by simpa using HK0.out, by simpa using h⟩⟩, Lib.hid (blk_new w _), Lib.hid (up_drewN (up_alloc (Below.refl _ _) _) _)⟩
    · go_quiet (fail)
      go_wp2
      go_meet
      case rel =>
        go_light
        exact ⟨_, _, _, rfl, rfl, rfl, Lib.hid ⟨fun h => by simpa using h, noText, fun h => by simp at h⟩, Lib.hid (blk_new w _), Lib.hid (up_drewN (up_alloc (Below.refl _ _) _) _)⟩
  case rest =>
    obtain ⟨bn, bt, bp, rfl, rfl, rfl, HP, HX, HB⟩ := hcut
    have c0 : wc.cell? ⟨w.heap.size, 0, none⟩ = some (.int .i64 v.kind) := (blk_cell HX.out 0).trans rfl
    have c1 : wc.cell? ⟨w.heap.size, 1, none⟩ = some (.int .i64 v.num) := (blk_cell HX.out 1).trans rfl
    have c2 : wc.cell? ⟨w.heap.size, 2, none⟩ = some (.string v.text) := (blk_cell HX.out 2).trans rfl
    have c3 : wc.cell? ⟨w.heap.size, 3, none⟩ = some (.slice ka v.keys.length kc) := (blk_cell HX.out 3).trans rfl
    have c4 : wc.cell? ⟨w.heap.size, 4, none⟩ = some (.slice ia v.items.length ic) := (blk_cell HX.out 4).trans rfl
    by_cases k0 : v.kind = 0
    · have K0 := Lib.hid k0
      rw [k0] at c0
      clear k0
      cases bn <;> cases bt
      all_goals
        go_wp2
        go_ret
        first
          | exact ⟨false, rfl, by simp, HB.out⟩
          | exact ⟨bp, rfl, fun h => Plain.flat (.inl ⟨K0.out, HP.out.1 (by simp), HP.out.2.1 (by simp), HP.out.2.2 h⟩), HB.out⟩
    have e0 : (v.kind == 0) = false := beq_eq_false_iff_ne.mpr k0
    clear k0
    by_cases k1 : v.kind = 1
    · have K0 := Lib.hid k1
      rw [k1] at c0
      clear k1 e0
      rcases eq_or v.num 0 with ⟨n0, n0'⟩ | ⟨n0, n0'⟩ <;> rcases eq_or v.num 1 with ⟨n1, n1'⟩ | ⟨n1, n1'⟩ <;> cases bt
      all_goals
        have N0 := Lib.hid n0
        have N1 := Lib.hid n1
        go_wp2
        go_ret
        first
          | exact ⟨false, rfl, by simp, HB.out⟩
          | exact ⟨bp, rfl, fun h => Plain.flat (.inr (.inl ⟨K0.out, (by have := N0.out; have := N1.out; simp_all), HP.out.2.1 (by simp), HP.out.2.2 h⟩)), HB.out⟩
    have e1 : (v.kind == 1) = false := beq_eq_false_iff_ne.mpr k1
    clear k1
    by_cases k2 : v.kind = 2
    · have K0 := Lib.hid k2
      rw [k2] at c0
      clear k2 e0 e1
      rcases dec_or (-1000000000 < v.num) with n0 | n0 <;> rcases dec_or (v.num < 1000000000) with n1 | n1 <;> cases bt
      all_goals
        have N0 := Lib.hid n0
        have N1 := Lib.hid n1
        go_wp2
        go_ret
        first
          | exact ⟨false, rfl, by simp, HB.out⟩
          | exact ⟨bp, rfl, fun h => Plain.flat (.inr (.inr (.inl ⟨K0.out, by simpa using N0.out, by simpa using N1.out, HP.out.2.1 (by simp), HP.out.2.2 h⟩))), HB.out⟩
    have e2 : (v.kind == 2) = false := beq_eq_false_iff_ne.mpr k2
    clear k2
    by_cases k6 : v.kind = 6
    · have K0 := Lib.hid k6
      rw [k6] at c0
      clear k6 e0 e1 e2
      rcases dec_or (-1000000000 < v.num) with n0 | n0 <;> rcases dec_or (v.num < 1000000000) with n1 | n1 <;> rcases eq_or (v.num.tmod 4) 0 with ⟨n2, n2'⟩ | ⟨n2, n2'⟩ <;> cases bt
      all_goals
        have N0 := Lib.hid n0
        have N1 := Lib.hid n1
        have N2 := Lib.hid n2
        go_wp2
        go_ret
        first
          | exact ⟨false, rfl, by simp, HB.out⟩
          | exact ⟨bp, rfl, fun h => Plain.flat (.inr (.inr (.inr (.inl ⟨K0.out, by simpa using N0.out, by simpa using N1.out, by simpa using N2.out, HP.out.2.1 (by simp), HP.out.2.2 h⟩)))), HB.out⟩
    have e6 : (v.kind == 6) = false := beq_eq_false_iff_ne.mpr k6
    clear k6
    by_cases k3 : v.kind = 3
    · have K0 := Lib.hid k3
      rw [k3] at c0
      clear k3 e0 e1 e2 e6
      cases bn
      · go_wp2
        go_ret
        exact ⟨false, rfl, by simp, HB.out⟩
      · go_wp2_with (go_at_call 29; refine (isWord_any v.text _ ht).mono ?_; rintro e w' ⟨b, rfl, hp, rfl⟩; have HW := Lib.hid hp; clear hp; cases b)
        all_goals
          go_ret
          first
            | exact ⟨false, rfl, by simp, HB.out⟩
            | exact ⟨bp, rfl, fun h => Plain.flat (.inr (.inr (.inr (.inr ⟨K0.out, HP.out.1 (by simp), HW.out (by simp), HP.out.2.2 h⟩)))), HB.out⟩
    have e3 : (v.kind == 3) = false := beq_eq_false_iff_ne.mpr k3
    clear k3
    by_cases k4 : v.kind = 4
    · have K0 := Lib.hid k4
      rw [k4] at c0
      clear k4 e0 e1 e2 e6 e3
      cases bn
      · go_wp2
        go_ret
        exact ⟨false, rfl, by simp, HB.out⟩
      cases bt
      · go_wp2
        go_ret
        exact ⟨false, rfl, by simp, HB.out⟩
      rcases dec_or (0 < v.keys.length) with e4 | e4
      · go_wp2
        go_ret
        exact ⟨false, rfl, by simp, HB.out⟩
      have E4 := Lib.hid e4
      -- the depth, the number of items, each item
      rcases Nat.eq_zero_or_pos D with d0 | d0
      · have e0 : ((D : Int) == 0) = true := by simp [d0]
        clear d0
        go_wp2
        go_ret
        exact ⟨false, rfl, by simp, HB.out⟩
      · obtain ⟨D', hD'⟩ : ∃ D', D' + 1 = D := ⟨D - 1, by omega⟩
        have e0 : ((D : Int) == 0) = false := beq_eq_false_iff_ne.mpr (by omega)
        have HD := Lib.hid hD'
        clear hD'
        rcases dec_or ((60 : Int) < v.items.length) with e6 | e6
        · go_wp2
          go_ret
          exact ⟨false, rfl, by simp, HB.out⟩
        · have HI := Lib.hid (IH.out D' HD.out)
          have hw1 : wrap64 ((D : Int) - 1) = (D' : Int) := by have := HD.out; unfold wrap64; omega
          have HW1 := Lib.hid hw1
          clear hw1
          have E6 := Lib.hid e6
          go_wp2
          go_loopg [172] v.items.length (fun gk v172 wr => ∃ i : Nat, v172 = .int .i64 i ∧ i + gk = v.items.length ∧ Hid (∀ j (h : j < v.items.length), j < i → Plain D' v.items[j]) ∧ Hid (Below w.heap.size w wr))
          case atStart => exact ⟨0, rfl, by omega, Lib.hid (fun _ _ h => absurd h (Nat.not_lt_zero _)), Lib.hid (HB.out)⟩
          case round =>
            obtain ⟨i, rfl, hi, HJ, HBr⟩ := hrel
            clear c0 c1 c2 c3 c4
            by_cases hlt : i < v.items.length
            · obtain ⟨b, o, ka', ia', kc', ic', hb, h0, h1, h2, h3, h4, hvi⟩ := (HIT.out i).up HBr.out hlt
              cases hb
              obtain ⟨x, hx⟩ : ∃ x, v.items[i] = x := ⟨_, rfl⟩
              rw [hx] at h0 h1 h2 h3 h4 hvi
              have HX1 := Lib.hid hx
              clear hx
              have HC := Lib.hid (fun W (hb : Below wr.heap.size wr W) => HI.out x W _ (hvi.up hb))
              clear hvi
              have hDD : (D : Int) - 1 = D' := by have := HD.out; omega
              go_wp2_with fail
              clear hDD
              refine (HC.out _ (up_alloc (Below.refl _ _) _)).mono ?_
              rintro e w' ⟨b, rfl, hp, hb1⟩
              have HP1 := Lib.hid hp
              have HB1 := Lib.hid hb1
              clear hp hb1
              cases b
              · go_wp2
                go_ret
                exact ⟨false, rfl, by simp, up_trans HBr.out (up_trans (up_alloc (Below.refl _ _) _) HB1.out)⟩
              · go_wp2
                go_roundg (v.items.length - (i + 1))
                case measure => omega
                case rel =>
                  refine ⟨i + 1, by go_num, by omega, Lib.hid (fun j hj hji => ?_), Lib.hid (up_trans HBr.out (up_trans (up_alloc (Below.refl _ _) _) HB1.out))⟩
                  rcases Nat.lt_or_ge j i with h | h
                  · exact HJ.out j hj h
                  · obtain rfl : j = i := by omega
                    rw [HX1.out]
                    exact HP1.out (by simp)
            · have HALL : Hid (v.items.length ≤ i) := Lib.hid (by omega)
              go_wp2
              go_ret
              refine ⟨true, rfl, fun _ => ?_, HBr.out⟩
              have hall : ∀ j (h : j < v.items.length), Plain D' v.items[j] := fun j h => HJ.out j h (by have := HALL.out; omega)
              have h60 : v.items.length ≤ 60 := by have := E6.out; simp at this; omega
              rw [← HD.out]
              exact .inr (.inl ⟨K0.out, HP.out.1 (by simp), HP.out.2.1 (by simp), by simpa using E4.out, h60, hall⟩)
    have e4 : (v.kind == 4) = false := beq_eq_false_iff_ne.mpr k4
    clear k4
    by_cases k5 : v.kind = 5
    · have K0 := Lib.hid k5
      rw [k5] at c0
      clear k5 e0 e1 e2 e6 e3 e4
      cases bn
      · go_wp2
        go_ret
        exact ⟨false, rfl, by simp, HB.out⟩
      cases bt
      · go_wp2
        go_ret
        exact ⟨false, rfl, by simp, HB.out⟩
      by_cases hlen : ¬ v.keys.length = v.items.length
      · have f0 : (v.keys.length == v.items.length) = false := beq_eq_false_iff_ne.mpr hlen
        have f1 : (v.keys.length != v.items.length) = true := bne_iff_ne.mpr hlen
        have f2 : ((v.keys.length : Int) == (v.items.length : Int)) = false := beq_eq_false_iff_ne.mpr (by omega)
        have f3 : ((v.keys.length : Int) != (v.items.length : Int)) = true := bne_iff_ne.mpr (by omega)
        clear hlen
        go_wp2
        go_ret
        exact ⟨false, rfl, by simp, HB.out⟩
      replace hlen : v.keys.length = v.items.length := Decidable.not_not.mp hlen
      have f0 : (v.keys.length == v.items.length) = true := beq_iff_eq.mpr hlen
      have f1 : (v.keys.length != v.items.length) = false := bne_eq_false_iff_eq.mpr hlen
      have f2 : ((v.keys.length : Int) == (v.items.length : Int)) = true := beq_iff_eq.mpr (by omega)
      have f3 : ((v.keys.length : Int) != (v.items.length : Int)) = false := bne_eq_false_iff_eq.mpr (by omega)
      have HLEN := Lib.hid hlen
      clear hlen
      go_wp2
      go_loopg [138] v.keys.length (fun gk v138 wr => ∃ i : Nat, v138 = .int .i64 i ∧ i + gk = v.keys.length ∧ Hid (KeysTo v i) ∧ wr = wc)
      case atStart => exact ⟨0, rfl, by omega, Lib.hid (fun _ _ h => absurd h (Nat.not_lt_zero _)), rfl⟩
      case round =>
        obtain ⟨i, rfl, hi, HJ, hwr⟩ := hrel
        subst hwr
        by_cases hlt : i < v.keys.length
        · obtain ⟨hsz, b, o, hb, hc⟩ := (HK.out.up HB.out) i hlt
          cases hb
          obtain ⟨s, hs⟩ : ∃ s, v.keys[i] = s := ⟨_, rfl⟩
          rw [hs] at hc hsz
          have HS := Lib.hid hs
          clear hs
          have hsz' : s.size ≤ 9223372036854775807 := by simpa [maxLen] using hsz
          clear hsz
          go_wp2_with fail
          refine (isWord_any s _ hsz').mono ?_
          rintro e w' ⟨bw, rfl, hp, rfl⟩
          have HW := Lib.hid hp
          clear hp
          cases bw
          · go_wp2
            go_ret
            exact ⟨false, rfl, by simp, HB.out⟩
          · rcases Nat.eq_zero_or_pos i with i0 | i0
            · have g0 : decide ((0 : Int) < (i : Int)) = false := decide_eq_false (by omega)
              have g1 : decide (0 < i) = false := decide_eq_false (by omega)
              have I0 := Lib.hid i0
              clear i0
              go_wp2
              go_roundg (v.keys.length - (i + 1))
              case measure => omega
              case rel => exact ⟨i + 1, by go_num, by omega, Lib.hid (HJ.out.succ (fun h => by rw [HS.out]; exact HW.out (by simp)) (fun h _ hp => absurd I0.out (by omega))), rfl⟩
            · have g0 : decide ((0 : Int) < (i : Int)) = true := decide_eq_true (by omega)
              have g1 : decide (0 < i) = true := decide_eq_true (by omega)
              obtain ⟨hsz2, b2, o2, hb2, hc2⟩ := (HK.out.up HB.out) (i - 1) (by omega)
              cases hb2
              obtain ⟨s2, hs2⟩ : ∃ s2, v.keys[i - 1] = s2 := ⟨_, rfl⟩
              rw [hs2] at hc2 hsz2
              have HS2 := Lib.hid hs2
              clear hs2 hsz2
              have i1 : (0 : Int) ≤ (i : Int) - 1 := by omega
              have i2 : (i : Int) - 1 < v.keys.length := by omega
              have i3 : ((i : Int) - 1).toNat = i - 1 := by omega
              have i4 : wrap64 ((i : Int) - 1) = (i : Int) - 1 := by unfold wrap64; omega
              have hle : (Op.bytesLess s.toList s2.toList || s.toList == s2.toList) = true ∨ (Op.bytesLess s.toList s2.toList || s.toList == s2.toList) = false := by
                cases (Op.bytesLess s.toList s2.toList || s.toList == s2.toList) <;> simp
              rcases hle with hle | hle
              · go_wp2
                go_ret
                exact ⟨false, rfl, by simp, HB.out⟩
              · have HLE := Lib.hid hle
                go_wp2
                go_roundg (v.keys.length - (i + 1))
                case measure => omega
                case rel => exact ⟨i + 1, by go_num, by omega, Lib.hid (HJ.out.succ (fun h => by rw [HS.out]; exact HW.out (by simp)) (fun h h' hp => by rw [HS.out, HS2.out]; exact less_of_not_le HLE.out)), rfl⟩
        · have hall : v.keys.length ≤ i := by omega
          have HALLK : Hid (KeysTo v v.keys.length) := Lib.hid (fun j hj _ => HJ.out j hj (by omega))
          clear hall
          -- the depth, the number of items, each item
          rcases Nat.eq_zero_or_pos D with d0 | d0
          · have e0 : ((D : Int) == 0) = true := by simp [d0]
            clear d0
            go_wp2
            go_ret
            exact ⟨false, rfl, by simp, HB.out⟩
          · obtain ⟨D', hD'⟩ : ∃ D', D' + 1 = D := ⟨D - 1, by omega⟩
            have e0 : ((D : Int) == 0) = false := beq_eq_false_iff_ne.mpr (by omega)
            have HD := Lib.hid hD'
            clear hD'
            rcases dec_or ((60 : Int) < v.items.length) with e6 | e6
            · go_wp2
              go_ret
              exact ⟨false, rfl, by simp, HB.out⟩
            · have HI := Lib.hid (IH.out D' HD.out)
              have hw1 : wrap64 ((D : Int) - 1) = (D' : Int) := by have := HD.out; unfold wrap64; omega
              have HW1 := Lib.hid hw1
              clear hw1
              have E6 := Lib.hid e6
              go_wp2
              go_loopg [172] v.items.length (fun gk v172 wr => ∃ i : Nat, v172 = .int .i64 i ∧ i + gk = v.items.length ∧ Hid (∀ j (h : j < v.items.length), j < i → Plain D' v.items[j]) ∧ Hid (Below w.heap.size w wr))
              case atStart => exact ⟨0, rfl, by omega, Lib.hid (fun _ _ h => absurd h (Nat.not_lt_zero _)), Lib.hid (HB.out)⟩
              case round =>
                obtain ⟨i, rfl, hi, HJ, HBr⟩ := hrel
                clear c0 c1 c2 c3 c4
                by_cases hlt : i < v.items.length
                · obtain ⟨b, o, ka', ia', kc', ic', hb, h0, h1, h2, h3, h4, hvi⟩ := (HIT.out i).up HBr.out hlt
                  cases hb
                  obtain ⟨x, hx⟩ : ∃ x, v.items[i] = x := ⟨_, rfl⟩
                  rw [hx] at h0 h1 h2 h3 h4 hvi
                  have HX1 := Lib.hid hx
                  clear hx
                  have HC := Lib.hid (fun W (hb : Below wr.heap.size wr W) => HI.out x W _ (hvi.up hb))
                  clear hvi
                  have hDD : (D : Int) - 1 = D' := by have := HD.out; omega
                  go_wp2_with fail
                  clear hDD
                  refine (HC.out _ (up_alloc (Below.refl _ _) _)).mono ?_
                  rintro e w' ⟨b, rfl, hp, hb1⟩
                  have HP1 := Lib.hid hp
                  have HB1 := Lib.hid hb1
                  clear hp hb1
                  cases b
                  · go_wp2
                    go_ret
                    exact ⟨false, rfl, by simp, up_trans HBr.out (up_trans (up_alloc (Below.refl _ _) _) HB1.out)⟩
                  · go_wp2
                    go_roundg (v.items.length - (i + 1))
                    case measure => omega
                    case rel =>
                      refine ⟨i + 1, by go_num, by omega, Lib.hid (fun j hj hji => ?_), Lib.hid (up_trans HBr.out (up_trans (up_alloc (Below.refl _ _) _) HB1.out))⟩
                      rcases Nat.lt_or_ge j i with h | h
                      · exact HJ.out j hj h
                      · obtain rfl : j = i := by omega
                        rw [HX1.out]
                        exact HP1.out (by simp)
                · have HALL : Hid (v.items.length ≤ i) := Lib.hid (by omega)
                  go_wp2
                  go_ret
                  refine ⟨true, rfl, fun _ => ?_, HBr.out⟩
                  have hall : ∀ j (h : j < v.items.length), Plain D' v.items[j] := fun j h => HJ.out j h (by have := HALL.out; omega)
                  have h60 : v.items.length ≤ 60 := by have := E6.out; simp at this; omega
                  rw [← HD.out]
                  exact .inr (.inr ⟨K0.out, HP.out.1 (by simp), HP.out.2.1 (by simp), HLEN.out, h60, HALLK.out, hall⟩)
    have e5 : (v.kind == 5) = false := beq_eq_false_iff_ne.mpr k5
    clear k5
    go_wp2
    go_ret
    exact ⟨false, rfl, by simp, HB.out⟩
end Go.Proofs.YthdnkcofcbinhaaGreatDoor
