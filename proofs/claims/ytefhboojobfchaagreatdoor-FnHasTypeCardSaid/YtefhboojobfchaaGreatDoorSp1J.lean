/- The reference's plain functions over Values: what they hand back, and that they only make new blocks. -/
import Derived.Test.YtefhboojobfchaaGreatDoorValJ
import Derived.Test.YtefhboojobfchaaGreatDoorProg
import Derived.WalkLawsBesides
set_option linter.unusedVariables false
set_option linter.unusedSimpArgs false
namespace Go.Proofs.YtefhboojobfchaaGreatDoor
open Go.RowKit

/-- A text of printable characters, tabs and newlines, not long. -/
def Wordy (s : ByteArray) : Prop := (∀ i (h : i < s.size), (32 ≤ (s[i]'h).toNat ∧ (s[i]'h).toNat ≤ 126) ∨ (s[i]'h).toNat = 9 ∨ (s[i]'h).toNat = 10) ∧ s.size ≤ 200

def WordTo (s : ByteArray) (k : Nat) : Prop := ∀ i (h : i < s.size), i < k → (32 ≤ (s[i]'h).toNat ∧ (s[i]'h).toNat ≤ 126) ∨ (s[i]'h).toNat = 9 ∨ (s[i]'h).toNat = 10
/-- A truth value of which something is known when it is true; the world stays. -/
def QuietBool (p : Prop) (w : World) (e : Ending) (w' : World) : Prop := ∃ b : Bool, e = .returned (.bool b) ∧ (b = true → p) ∧ w = w'
theorem dec_or (p : Prop) [Decidable p] : decide p = true ∨ decide p = false := by cases decide p <;> simp
theorem eq_or (c d : Int) : ((c == d) = true ∧ (c != d) = false) ∨ ((c == d) = false ∧ (c != d) = true) := by
  by_cases h : c = d
  · exact .inl ⟨beq_iff_eq.mpr h, bne_eq_false_iff_eq.mpr h⟩
  · exact .inr ⟨beq_eq_false_iff_ne.mpr h, bne_iff_ne.mpr h⟩
theorem WordTo.succ {s : ByteArray} {k : Nat} (h : WordTo s k) (c : Int) (hc : ∀ hk : k < s.size, ((s[k]'hk).toNat : Int) = c)
    (hg : ((decide (c < 32) || decide (126 < c)) && ((c != 9) && (c != 10))) = false) : WordTo s (k + 1) := by
  intro i hi hik
  rcases Nat.lt_or_ge i k with h1 | h1
  · exact h i hi h1
  · obtain rfl : i = k := by omega
    have := hc hi
    simp at hg
    omega

set_option maxHeartbeats 1000000 in
theorem isWord_any (s : ByteArray) (w : World) (hs : s.size ≤ 9223372036854775807) : Calls Tryz.prog 21 #[.string s] w (QuietBool (Wordy s) w) := by
  go_enter Tryz.func21, Tryz.ntmps21
  go_wp2
  go_loopg [3] s.size (fun gk v3 wr => ∃ i : Nat, v3 = .int .i64 i ∧ i + gk = s.size ∧ Hid (WordTo s i) ∧ wr = w)
  case atStart => exact ⟨0, rfl, by omega, Lib.hid (fun _ _ h => absurd h (Nat.not_lt_zero _)), rfl⟩
  case round =>
    obtain ⟨i, rfl, hi, HW, hwr⟩ := hrel
    subst hwr
    by_cases hlt : i < s.size
    · obtain ⟨c, hc⟩ : ∃ c : Int, ∀ h : i < s.size, ((s[i]'h).toNat : Int) = c := ⟨((s[i]'hlt).toNat : Int), fun _ => rfl⟩
      have HC := Lib.hid hc
      rcases dec_or (c < 32) with b1 | b1 <;> rcases dec_or (126 < c) with b2 | b2 <;> rcases eq_or c 9 with ⟨b3, b4⟩ | ⟨b3, b4⟩ <;> rcases eq_or c 10 with ⟨b5, b6⟩ | ⟨b5, b6⟩
      all_goals
        go_wp2
        first
          | (go_roundg (s.size - (i + 1))
             case measure => omega
             case rel => exact ⟨i + 1, by go_num, by omega, Lib.hid (HW.out.succ c HC.out (by rw [b1, b2, b4, b6]; rfl)), rfl⟩)
          | (go_ret
             exact ⟨false, rfl, by simp, rfl⟩)
    · have hall : i = s.size := by omega
      have HE := Lib.hid hall
      clear hall
      go_wp2
      go_ret
      exact ⟨decide ((s.size : Int) ≤ 200), rfl, fun h => ⟨fun j hj => HW.out j hj (by have := HE.out; omega), by simp at h; omega⟩, rfl⟩

set_option maxHeartbeats 1000000 in
/-- No text is too long for the statement, or one is: whatever it says. -/
theorem zzFits2_any (ka : Option Addr) (kc : Nat) (ks : List ByteArray) (w : World) (hk : StrsAt w ka ks) (hkc : ks.length ≤ kc) (hkm : kc ≤ 9223372036854775807) :
    Calls Tryz.prog 8 #[.slice ka ks.length kc] w (QuietBool True w) := by
  have HK := Lib.hid hk
  clear hk
  by_cases hbig : (2147483647 : Int) < ks.length
  · go_enter Tryz.func8, Tryz.ntmps8
    go_wp2
    go_ret
    exact ⟨false, rfl, fun _ => trivial, rfl⟩
  · have bbig := decide_eq_false hbig
    go_enter Tryz.func8, Tryz.ntmps8
    go_wp2
    go_loopg [10] ks.length (fun gk v10 wr => ∃ i : Nat, v10 = .int .i64 i ∧ i + gk = ks.length ∧ wr = w)
    case atStart => exact ⟨0, rfl, by omega, rfl⟩
    case round =>
      obtain ⟨i, rfl, hi, hwr⟩ := hrel
      subst hwr
      by_cases hlt : i < ks.length
      · obtain ⟨hl, b, o, hb, hc⟩ := HK.out i hlt
        cases hb
        obtain ⟨s, hs⟩ : ∃ s, ks[i] = s := ⟨_, rfl⟩
        rw [hs] at hc
        clear hs hl
        rcases dec_or ((2147483647 : Int) < s.size) with b1 | b1
        all_goals
          go_wp2
          first
            | (go_roundg (ks.length - (i + 1))
               case measure => omega
               case rel => exact ⟨i + 1, by go_num, by omega, rfl⟩)
            | (go_ret
               exact ⟨false, rfl, fun _ => trivial, rfl⟩)
      · go_wp2
        go_ret
        exact ⟨true, rfl, fun _ => trivial, rfl⟩

set_option maxHeartbeats 1000000 in
theorem zzFits1_any (v : Dat) (cs : List Value) (w : World) (hv : VA w v cs) :
    Calls Tryz.prog 4 #[.agg cs.toArray] w (SomeBool True w) := by
  obtain ⟨ka, ia, kc, ic, rfl, ht, hk, hkc, hkm, hic, him, hit⟩ := hv.inv
  have HF := Lib.hid (fun W (hb : Below w.heap.size w W) => zzFits2_any ka kc v.keys W (hk.up hb) hkc hkm)
  clear hit hk
  rcases dec_or ((2147483647 : Int) < v.text.size) with b1 | b1 <;> rcases dec_or ((2147483647 : Int) < v.items.length) with b2 | b2
  all_goals
    go_enter Tryz.func4, Tryz.ntmps4
    go_wp2_with (go_at_call 8; refine (HF.out _ (up_alloc (Below.refl _ _) _)).mono ?_; rintro e w' ⟨b, rfl, _, rfl⟩; cases b)
    all_goals
      go_ret
      exact ⟨_, rfl, fun _ => trivial, up_alloc (Below.refl _ _) _⟩
end Go.Proofs.YtefhboojobfchaaGreatDoor
