/- A whole number's text is read as that number (no program's steps here). -/
import Derived.Lib.Atoi
import Derived.Lib.AtoiTie
import Derived.Lib.ParseIntBTie
import Derived.Lib.ItoaLen
set_option linter.unusedVariables false
set_option linter.unusedSimpArgs false
namespace Go.Proofs.YthdnkcofcbinhaaGreatDoor
open Go.Lib

theorem decFrom_app : ∀ (l r : List UInt8) (acc : Nat), decFrom acc (l ++ r) = (decFrom acc l).bind fun a => decFrom a r
  | [], _, _ => rfl
  | b :: l, r, acc => by
    simp only [List.cons_append, decFrom]
    cases digitVal b with
    | none => rfl
    | some d => exact decFrom_app l r _
theorem digit_of {d : Nat} (h : d < 10) : digitVal (UInt8.ofNat (48 + d)) = some d := by
  unfold digitVal
  have e : (UInt8.ofNat (48 + d)).toNat = 48 + d := by
    rw [UInt8.toNat_ofNat']
    omega
  rw [e, if_pos (by omega)]
  simp
theorem decFrom_digits (u : Nat) : decFrom 0 (decDigits u) = some u := by
  induction u using Nat.strongRecOn with
  | ind u ih =>
    rw [decDigits]
    split
    · rename_i h
      simp only [decFrom, digit_of h, Nat.zero_mul, Nat.zero_add]
    · rename_i h
      rw [decFrom_app, ih (u / 10) (by omega)]
      simp only [Option.bind_some, decFrom, digit_of (Nat.mod_lt u (by omega : 10 > 0))]
      congr 1
      omega
theorem decDigits_ne (u : Nat) : decDigits u ≠ [] := by
  intro h
  have := decDigits_length u
  rw [h] at this
  have h2 := nDigits_pos u
  simp at this
  omega
theorem decNat_digits (u : Nat) : decNat (decDigits u) = some u := by
  unfold decNat
  rw [if_neg (by simp [decDigits_ne]), decFrom_digits]
theorem digits_digit (u : Nat) : ∀ c ∈ decDigits u, 48 ≤ c.toNat ∧ c.toNat ≤ 57 := by
  induction u using Nat.strongRecOn with
  | ind u ih =>
    intro c hc
    rw [decDigits] at hc
    have one : ∀ d : Nat, d < 10 → 48 ≤ (UInt8.ofNat (48 + d)).toNat ∧ (UInt8.ofNat (48 + d)).toNat ≤ 57 := fun d hd => by
      rw [UInt8.toNat_ofNat']
      omega
    split at hc
    · rename_i h
      rw [List.mem_singleton] at hc
      rw [hc]
      exact one u h
    · rename_i h
      rcases List.mem_append.1 hc with h1 | h1
      · exact ih (u / 10) (by omega) c h1
      · rw [List.mem_singleton] at h1
        rw [h1]
        exact one _ (Nat.mod_lt _ (by omega))
theorem atoi_itoa (n : Int) : atoi (itoa n) = some n := by
  unfold itoa
  split
  · rename_i h
    simp only [atoi, decNat_digits]
    simp
    omega
  · rename_i h
    cases hd : decDigits n.toNat with
    | nil => exact absurd hd (decDigits_ne _)
    | cons b r =>
      have hb := digits_digit n.toNat b (by rw [hd]; exact List.mem_cons_self ..)
      have e1 : (b == 45) = false := by
        cases hq : b == 45
        · rfl
        · have : b = 45 := by simpa using hq
          rw [this] at hb
          revert hb; decide
      have e2 : (b == 43) = false := by
        cases hq : b == 43
        · rfl
        · have : b = 43 := by simpa using hq
          rw [this] at hb
          revert hb; decide
      simp only [atoi, e1, e2]
      rw [← hd, decNat_digits]
      simp
      omega
theorem parse_itoa (n : Int) (hl : (itoa n).length ≤ 18) : parseIntB 64 (itoa n) = .ok n := by
  rw [parseIntB_64, atoiAll_short _ hl, atoi_itoa]
  rfl
theorem itoa_short (n : Int) (h0 : -1000000000 < n) (h1 : n < 1000000000) : (itoa n).length ≤ 18 := by
  have key : ∀ u : Nat, u < 1000000000 → nDigits u ≤ 9 := fun u hu => by
    rcases Nat.lt_or_ge (nDigits u) 10 with h | h
    · omega
    · exfalso
      have h9 : ∀ (k v : Nat), nDigits v ≥ k + 1 → 10 ^ k ≤ v ∨ k = 0 := by
        intro k
        induction k with
        | zero => intro v _; exact .inr rfl
        | succ k ih =>
          intro v hv
          by_cases hs : v < 10
          · rw [nDigits_small hs] at hv; omega
          · rw [nDigits_big hs] at hv
            rcases ih (v / 10) (by omega) with h | h
            · left
              rw [Nat.pow_succ]
              omega
            · left
              subst h
              omega
      rcases h9 9 u h with h | h
      · have : (10 : Nat) ^ 9 = 1000000000 := by decide
        omega
      · omega
  unfold itoa
  split
  · simp only [List.length_cons, decDigits_length]
    have := key n.natAbs (by omega)
    omega
  · rw [decDigits_length]
    have := key n.toNat (by omega)
    omega
end Go.Proofs.YthdnkcofcbinhaaGreatDoor
