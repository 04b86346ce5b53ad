/- The reference's words: isText, isFourth, find, each. -/
import Derived.Test.YthdnkcofcbinhaaGreatDoorIs1J
set_option linter.unusedVariables false
set_option linter.unusedSimpArgs false
namespace Go.Proofs.YthdnkcofcbinhaaGreatDoor
open Go.RowKit

theorem isText_any (v : Dat) (w : World) (cs : List Value) (hv : VA w v cs) : Calls Tryz.prog 30 #[.agg cs.toArray] w (IsBool (v.kind == 3) w) := by
  obtain ⟨ka, ia, kc, ic, rfl, ht, hk, hkc, hkm, hic, him, hit⟩ := hv.inv
  clear hit hk hv
  go_enter Tryz.func30, Tryz.ntmps30
  go_wp2
  go_ret
  exact ⟨rfl, up_alloc (Below.refl _ _) _⟩

set_option maxHeartbeats 1000000 in
theorem isFourth_any (s : ByteArray) (w : World) : Calls Tryz.prog 23 #[.string s] w (QuietBool True w) := by
  go_enter Tryz.func23, Tryz.ntmps23
  go_wp2
  all_goals
    go_ret
    exact ⟨_, rfl, fun _ => trivial, rfl⟩

/-- Where a key stands. -/
def FindIs (ks : List ByteArray) (key : ByteArray) (r : Int) : Prop := (r = -1 ∧ ∀ j (h : j < ks.length), ks[j] ≠ key) ∨ ∃ (j : Nat) (h : j < ks.length), r = j ∧ ks[j] = key
def GivesPlace (ks : List ByteArray) (key : ByteArray) (w : World) (e : Ending) (w' : World) : Prop := ∃ r, e = .returned (.int .i64 r) ∧ FindIs ks key r ∧ Below w.heap.size w w'

set_option maxHeartbeats 1000000 in
theorem find_any (v : Dat) (key : ByteArray) (w : World) (cs : List Value) (hv : VA w v cs) : Calls Tryz.prog 15 #[.agg cs.toArray, .string key] w (GivesPlace v.keys key w) := by
  obtain ⟨ka, ia, kc, ic, rfl, ht, hk, hkc, hkm, hic, him, hit⟩ := hv.inv
  have HK := Lib.hid hk
  clear hit hk hv
  go_enter Tryz.func15, Tryz.ntmps15
  go_wp2
  go_loopg [10] v.keys.length (fun gk v10 wr => ∃ i : Nat, v10 = .int .i64 i ∧ i + gk = v.keys.length ∧ Hid (∀ j (h : j < v.keys.length), j < i → v.keys[j] ≠ key) ∧ Hid (Below w.heap.size w wr))
  case atStart => exact ⟨0, rfl, by omega, Lib.hid (fun _ _ h => absurd h (Nat.not_lt_zero _)), Lib.hid (up_alloc (Below.refl _ _) _)⟩
  case round =>
    obtain ⟨i, rfl, hi, HJ, HB⟩ := hrel
    by_cases hlt : i < v.keys.length
    · obtain ⟨hl, b, o, hb, hc⟩ := HK.out i hlt
      cases hb
      have hc' := cell_up HB.out _ _ hc
      obtain ⟨s, hs⟩ : ∃ s, v.keys[i] = s := ⟨_, rfl⟩
      rw [hs] at hc'
      have HS := Lib.hid hs
      clear hs hl hc
      rcases bytes_or s key with ⟨b1, b2⟩ | ⟨b1, b2⟩
      · have B2 := Lib.hid b2
        clear b2
        go_wp2
        go_ret
        exact ⟨_, rfl, .inr ⟨i, hlt, rfl, HS.out.trans B2.out⟩, HB.out⟩
      · have B2 := Lib.hid b2
        clear b2
        go_wp2
        go_roundg (v.keys.length - (i + 1))
        case measure => omega
        case rel =>
          refine ⟨i + 1, by go_num, by omega, Lib.hid (fun j hj hji => ?_), HB⟩
          rcases Nat.lt_or_ge j i with h | h
          · exact HJ.out j hj h
          · obtain rfl : j = i := by omega
            exact fun e => B2.out (HS.out.symm.trans e)
    · have hall : i = v.keys.length := by omega
      have HE := Lib.hid hall
      clear hall
      go_wp2
      go_ret
      exact ⟨_, rfl, .inl ⟨rfl, fun j hj => HJ.out j hj (by have := HE.out; omega)⟩, HB.out⟩

set_option maxRecDepth 100000 in
set_option maxHeartbeats 1000000 in
theorem each_text (P : Dat → Prop) (v : Dat) (kd : Int) (w : World) (cs : List Value) (hv : VA w v cs)
    (hc : ∀ i (h : i < v.items.length) (W : World) (cs' : List Value), VA W v.items[i] cs' → Calls Tryz.prog 30 #[.agg cs'.toArray] W (SomeBool (P v.items[i]) W)) :
    Calls Tryz.prog 31 #[.agg cs.toArray, .int .i64 kd, .func (.func 30) #[] #[]] w (SomeBool (v.kind = kd ∧ ∀ i (h : i < v.items.length), P v.items[i]) w) := by
  obtain ⟨ka, ia, kc, ic, rfl, ht, hk, hkc, hkm, hic, him, hit⟩ := hv.inv
  have HIT := Lib.hid hit
  have HC := Lib.hid hc
  clear hit hk hv hc
  rcases eq_or v.kind kd with ⟨b1, b2⟩ | ⟨b1, b2⟩
  · have HK : Hid (v.kind = kd) := Lib.hid (by simpa using b1)
    go_enter Tryz.func31, Tryz.ntmps31
    go_wp2
    go_loopg [16] v.items.length (fun gk v16 wr => ∃ i : Nat, v16 = .int .i64 i ∧ i + gk = v.items.length ∧ Hid (∀ j (h : j < v.items.length), j < i → P v.items[j]) ∧ Hid (Below w.heap.size w wr))
    case atStart => exact ⟨0, rfl, by omega, Lib.hid (fun _ _ h => absurd h (Nat.not_lt_zero _)), Lib.hid (up_alloc (Below.refl _ _) _)⟩
    case round =>
      obtain ⟨i, rfl, hi, HJ, HB⟩ := hrel
      by_cases hlt : i < v.items.length
      · obtain ⟨b, o, ka', ia', kc', ic', hb, h0, h1, h2, h3, h4, hvi⟩ := (HIT.out i).up HB.out hlt
        cases hb
        have HX := Lib.hid (fun W (hb : Below wr.heap.size wr W) => HC.out i hlt W _ (hvi.up hb))
        obtain ⟨x, hx⟩ : ∃ x, v.items[i] = x := ⟨_, rfl⟩
        rw [hx] at h0 h1 h2 h3 h4 HX
        have HXE := Lib.hid hx
        clear hvi hx
        go_wp2_with fail
        go_at_call 30
        refine (HX.out _ (up_alloc (Below.refl _ _) _)).mono ?_
        rintro e w1 ⟨b, rfl, hp, hb1⟩
        have HB1 := Lib.hid (up_trans HB.out (up_trans (up_alloc (Below.refl _ _) _) hb1))
        have HP := Lib.hid hp
        clear hp hb1
        cases b
        · go_wp2
          go_ret
          exact ⟨false, rfl, by simp, HB1.out⟩
        · go_wp2
          go_roundg (v.items.length - (i + 1))
          case measure => omega
          case rel =>
            refine ⟨i + 1, by go_num, by omega, Lib.hid (fun j hj hji => ?_), HB1⟩
            rcases Nat.lt_or_ge j i with h | h
            · exact HJ.out j hj h
            · obtain rfl : j = i := by omega
              rw [HXE.out]
              exact HP.out trivial
      · have hall : i = v.items.length := by omega
        have HE := Lib.hid hall
        clear hall
        go_wp2
        go_ret
        exact ⟨true, rfl, fun _ => ⟨HK.out, fun j hj => HJ.out j hj (by have := HE.out; omega)⟩, HB.out⟩
  · go_enter Tryz.func31, Tryz.ntmps31
    go_wp2
    go_ret
    exact ⟨false, rfl, by simp, up_alloc (Below.refl _ _) _⟩
set_option maxRecDepth 100000 in
set_option maxHeartbeats 1000000 in
theorem each_shape (P : Dat → Prop) (v : Dat) (kd : Int) (w : World) (cs : List Value) (hv : VA w v cs)
    (hc : ∀ i (h : i < v.items.length) (W : World) (cs' : List Value), VA W v.items[i] cs' → Calls Tryz.prog 12 #[.agg cs'.toArray] W (SomeBool (P v.items[i]) W)) :
    Calls Tryz.prog 31 #[.agg cs.toArray, .int .i64 kd, .func (.func 12) #[] #[]] w (SomeBool (v.kind = kd ∧ ∀ i (h : i < v.items.length), P v.items[i]) w) := by
  obtain ⟨ka, ia, kc, ic, rfl, ht, hk, hkc, hkm, hic, him, hit⟩ := hv.inv
  have HIT := Lib.hid hit
  have HC := Lib.hid hc
  clear hit hk hv hc
  rcases eq_or v.kind kd with ⟨b1, b2⟩ | ⟨b1, b2⟩
  · have HK : Hid (v.kind = kd) := Lib.hid (by simpa using b1)
    go_enter Tryz.func31, Tryz.ntmps31
    go_wp2
    go_loopg [16] v.items.length (fun gk v16 wr => ∃ i : Nat, v16 = .int .i64 i ∧ i + gk = v.items.length ∧ Hid (∀ j (h : j < v.items.length), j < i → P v.items[j]) ∧ Hid (Below w.heap.size w wr))
    case atStart => exact ⟨0, rfl, by omega, Lib.hid (fun _ _ h => absurd h (Nat.not_lt_zero _)), Lib.hid (up_alloc (Below.refl _ _) _)⟩
    case round =>
      obtain ⟨i, rfl, hi, HJ, HB⟩ := hrel
      by_cases hlt : i < v.items.length
      · obtain ⟨b, o, ka', ia', kc', ic', hb, h0, h1, h2, h3, h4, hvi⟩ := (HIT.out i).up HB.out hlt
        cases hb
        have HX := Lib.hid (fun W (hb : Below wr.heap.size wr W) => HC.out i hlt W _ (hvi.up hb))
        obtain ⟨x, hx⟩ : ∃ x, v.items[i] = x := ⟨_, rfl⟩
        rw [hx] at h0 h1 h2 h3 h4 HX
        have HXE := Lib.hid hx
        clear hvi hx
        go_wp2_with fail
        go_at_call 12
        refine (HX.out _ (up_alloc (Below.refl _ _) _)).mono ?_
        rintro e w1 ⟨b, rfl, hp, hb1⟩
        have HB1 := Lib.hid (up_trans HB.out (up_trans (up_alloc (Below.refl _ _) _) hb1))
        have HP := Lib.hid hp
        clear hp hb1
        cases b
        · go_wp2
          go_ret
          exact ⟨false, rfl, by simp, HB1.out⟩
        · go_wp2
          go_roundg (v.items.length - (i + 1))
          case measure => omega
          case rel =>
            refine ⟨i + 1, by go_num, by omega, Lib.hid (fun j hj hji => ?_), HB1⟩
            rcases Nat.lt_or_ge j i with h | h
            · exact HJ.out j hj h
            · obtain rfl : j = i := by omega
              rw [HXE.out]
              exact HP.out trivial
      · have hall : i = v.items.length := by omega
        have HE := Lib.hid hall
        clear hall
        go_wp2
        go_ret
        exact ⟨true, rfl, fun _ => ⟨HK.out, fun j hj => HJ.out j hj (by have := HE.out; omega)⟩, HB.out⟩
  · go_enter Tryz.func31, Tryz.ntmps31
    go_wp2
    go_ret
    exact ⟨false, rfl, by simp, up_alloc (Below.refl _ _) _⟩
set_option maxRecDepth 100000 in
set_option maxHeartbeats 1000000 in
theorem each_texts (P : Dat → Prop) (v : Dat) (kd : Int) (w : World) (cs : List Value) (hv : VA w v cs)
    (hc : ∀ i (h : i < v.items.length) (W : World) (cs' : List Value), VA W v.items[i] cs' → Calls Tryz.prog 32 #[.agg cs'.toArray] W (SomeBool (P v.items[i]) W)) :
    Calls Tryz.prog 31 #[.agg cs.toArray, .int .i64 kd, .func (.func 32) #[] #[]] w (SomeBool (v.kind = kd ∧ ∀ i (h : i < v.items.length), P v.items[i]) w) := by
  obtain ⟨ka, ia, kc, ic, rfl, ht, hk, hkc, hkm, hic, him, hit⟩ := hv.inv
  have HIT := Lib.hid hit
  have HC := Lib.hid hc
  clear hit hk hv hc
  rcases eq_or v.kind kd with ⟨b1, b2⟩ | ⟨b1, b2⟩
  · have HK : Hid (v.kind = kd) := Lib.hid (by simpa using b1)
    go_enter Tryz.func31, Tryz.ntmps31
    go_wp2
    go_loopg [16] v.items.length (fun gk v16 wr => ∃ i : Nat, v16 = .int .i64 i ∧ i + gk = v.items.length ∧ Hid (∀ j (h : j < v.items.length), j < i → P v.items[j]) ∧ Hid (Below w.heap.size w wr))
    case atStart => exact ⟨0, rfl, by omega, Lib.hid (fun _ _ h => absurd h (Nat.not_lt_zero _)), Lib.hid (up_alloc (Below.refl _ _) _)⟩
    case round =>
      obtain ⟨i, rfl, hi, HJ, HB⟩ := hrel
      by_cases hlt : i < v.items.length
      · obtain ⟨b, o, ka', ia', kc', ic', hb, h0, h1, h2, h3, h4, hvi⟩ := (HIT.out i).up HB.out hlt
        cases hb
        have HX := Lib.hid (fun W (hb : Below wr.heap.size wr W) => HC.out i hlt W _ (hvi.up hb))
        obtain ⟨x, hx⟩ : ∃ x, v.items[i] = x := ⟨_, rfl⟩
        rw [hx] at h0 h1 h2 h3 h4 HX
        have HXE := Lib.hid hx
        clear hvi hx
        go_wp2_with fail
        go_at_call 32
        refine (HX.out _ (up_alloc (Below.refl _ _) _)).mono ?_
        rintro e w1 ⟨b, rfl, hp, hb1⟩
        have HB1 := Lib.hid (up_trans HB.out (up_trans (up_alloc (Below.refl _ _) _) hb1))
        have HP := Lib.hid hp
        clear hp hb1
        cases b
        · go_wp2
          go_ret
          exact ⟨false, rfl, by simp, HB1.out⟩
        · go_wp2
          go_roundg (v.items.length - (i + 1))
          case measure => omega
          case rel =>
            refine ⟨i + 1, by go_num, by omega, Lib.hid (fun j hj hji => ?_), HB1⟩
            rcases Nat.lt_or_ge j i with h | h
            · exact HJ.out j hj h
            · obtain rfl : j = i := by omega
              rw [HXE.out]
              exact HP.out trivial
      · have hall : i = v.items.length := by omega
        have HE := Lib.hid hall
        clear hall
        go_wp2
        go_ret
        exact ⟨true, rfl, fun _ => ⟨HK.out, fun j hj => HJ.out j hj (by have := HE.out; omega)⟩, HB.out⟩
  · go_enter Tryz.func31, Tryz.ntmps31
    go_wp2
    go_ret
    exact ⟨false, rfl, by simp, up_alloc (Below.refl _ _) _⟩
set_option maxRecDepth 100000 in
set_option maxHeartbeats 1000000 in
theorem each_enum (P : Dat → Prop) (v : Dat) (kd : Int) (w : World) (cs : List Value) (hv : VA w v cs)
    (hc : ∀ i (h : i < v.items.length) (W : World) (cs' : List Value), VA W v.items[i] cs' → Calls Tryz.prog 33 #[.agg cs'.toArray] W (SomeBool (P v.items[i]) W)) :
    Calls Tryz.prog 31 #[.agg cs.toArray, .int .i64 kd, .func (.func 33) #[] #[]] w (SomeBool (v.kind = kd ∧ ∀ i (h : i < v.items.length), P v.items[i]) w) := by
  obtain ⟨ka, ia, kc, ic, rfl, ht, hk, hkc, hkm, hic, him, hit⟩ := hv.inv
  have HIT := Lib.hid hit
  have HC := Lib.hid hc
  clear hit hk hv hc
  rcases eq_or v.kind kd with ⟨b1, b2⟩ | ⟨b1, b2⟩
  · have HK : Hid (v.kind = kd) := Lib.hid (by simpa using b1)
    go_enter Tryz.func31, Tryz.ntmps31
    go_wp2
    go_loopg [16] v.items.length (fun gk v16 wr => ∃ i : Nat, v16 = .int .i64 i ∧ i + gk = v.items.length ∧ Hid (∀ j (h : j < v.items.length), j < i → P v.items[j]) ∧ Hid (Below w.heap.size w wr))
    case atStart => exact ⟨0, rfl, by omega, Lib.hid (fun _ _ h => absurd h (Nat.not_lt_zero _)), Lib.hid (up_alloc (Below.refl _ _) _)⟩
    case round =>
      obtain ⟨i, rfl, hi, HJ, HB⟩ := hrel
      by_cases hlt : i < v.items.length
      · obtain ⟨b, o, ka', ia', kc', ic', hb, h0, h1, h2, h3, h4, hvi⟩ := (HIT.out i).up HB.out hlt
        cases hb
        have HX := Lib.hid (fun W (hb : Below wr.heap.size wr W) => HC.out i hlt W _ (hvi.up hb))
        obtain ⟨x, hx⟩ : ∃ x, v.items[i] = x := ⟨_, rfl⟩
        rw [hx] at h0 h1 h2 h3 h4 HX
        have HXE := Lib.hid hx
        clear hvi hx
        go_wp2_with fail
        go_at_call 33
        refine (HX.out _ (up_alloc (Below.refl _ _) _)).mono ?_
        rintro e w1 ⟨b, rfl, hp, hb1⟩
        have HB1 := Lib.hid (up_trans HB.out (up_trans (up_alloc (Below.refl _ _) _) hb1))
        have HP := Lib.hid hp
        clear hp hb1
        cases b
        · go_wp2
          go_ret
          exact ⟨false, rfl, by simp, HB1.out⟩
        · go_wp2
          go_roundg (v.items.length - (i + 1))
          case measure => omega
          case rel =>
            refine ⟨i + 1, by go_num, by omega, Lib.hid (fun j hj hji => ?_), HB1⟩
            rcases Nat.lt_or_ge j i with h | h
            · exact HJ.out j hj h
            · obtain rfl : j = i := by omega
              rw [HXE.out]
              exact HP.out trivial
      · have hall : i = v.items.length := by omega
        have HE := Lib.hid hall
        clear hall
        go_wp2
        go_ret
        exact ⟨true, rfl, fun _ => ⟨HK.out, fun j hj => HJ.out j hj (by have := HE.out; omega)⟩, HB.out⟩
  · go_enter Tryz.func31, Tryz.ntmps31
    go_wp2
    go_ret
    exact ⟨false, rfl, by simp, up_alloc (Below.refl _ _) _⟩

theorem SomeBool.of {b : Bool} {p : Prop} {w : World} {e : Ending} {w' : World} (h : IsBool b w e w') (hp : b = true → p) : SomeBool p w e w' := ⟨b, h.1, hp, h.2⟩
end Go.Proofs.YthdnkcofcbinhaaGreatDoor
