/- strconv's reader of numbers with a point: its small functions. -/
import Derived.Test.YthdnkcofcbinhaaGreatDoorGd3J
import Derived.Test.YthdnkcofcbinhaaGreatDoorGnJ
import Derived.WalkMore
set_option linter.unusedVariables false
set_option linter.unusedSimpArgs false
namespace Go.Proofs.YthdnkcofcbinhaaGreatDoor
open Go.RowKit

/-- A text of a number with a point: a sign or none, digits, a point (at p), digits, of which the last is not 0. -/
structure FText (s : ByteArray) (k p : Nat) : Prop where
  few : s.size ≤ 15
  kp : k < p
  pn : p + 1 < s.size
  k1 : k = 0 ∨ (k = 1 ∧ ∀ h : 0 < s.size, ((s[0]'h).toNat : Int) = 45)
  dig : ∀ i (h : i < s.size), k ≤ i → i ≠ p → 48 ≤ ((s[i]'h).toNat : Int) ∧ ((s[i]'h).toNat : Int) ≤ 57
  dot : ∀ h : p < s.size, ((s[p]'h).toNat : Int) = 46
  last : ∀ h : s.size - 1 < s.size, ((s[s.size - 1]'h).toNat : Int) ≠ 48

theorem lower_any (c : Int) (w : World) (hc : c = 46 ∨ (48 ≤ c ∧ c ≤ 57)) : Calls Tryz.prog 96 #[.int .u8 c] w fun e w' => e = .returned (.int .u8 c) ∧ w = w' := by
  have h : c = 46 ∨ c = 48 ∨ c = 49 ∨ c = 50 ∨ c = 51 ∨ c = 52 ∨ c = 53 ∨ c = 54 ∨ c = 55 ∨ c = 56 ∨ c = 57 := by omega
  rcases h with rfl | rfl | rfl | rfl | rfl | rfl | rfl | rfl | rfl | rfl | rfl
  all_goals
    go_enter Tryz.func96, Tryz.ntmps96
    go_wp2
    go_ret
    exact ⟨rfl, rfl⟩

set_option maxHeartbeats 1000000 in
theorem prefix_none (s : ByteArray) (w : World) (hs : 0 < s.size) (hz : s.size ≤ 15) (c : Int) (hc : ∀ h : 0 < s.size, ((s[0]'h).toNat : Int) = c) (hd : 48 ≤ c ∧ c ≤ 57) :
    Calls Tryz.prog 129 #[.string s, .string ⟨#[105, 110, 102, 105, 110, 105, 116, 121]⟩] w fun e w' => e = .returned (.int .i64 0) ∧ w = w' := by
  have h1 : ¬ (65 : Int) ≤ c := by omega
  have h2 : (c != 105) = true := bne_iff_ne.mpr (by omega)
  have hx : ∀ h : 0 < (⟨#[105, 110, 102, 105, 110, 105, 116, 121]⟩ : ByteArray).size, (((⟨#[105, 110, 102, 105, 110, 105, 116, 121]⟩ : ByteArray)[0]'h).toNat : Int) = 105 := fun _ => rfl
  have hm : (0 : Int) < min 8 (s.size : Int) := by omega
  have hs' : (0 : Int) < (s.size : Int) := by omega
  go_enter Tryz.func129, Tryz.ntmps129
  go_wp2
  go_loopg [6] 1 (fun gk v6 wr => v6 = .int .i64 0 ∧ gk = 1 ∧ wr = w)
  case atStart => exact ⟨rfl, rfl, rfl⟩
  case round =>
    obtain ⟨rfl, -, rfl⟩ := hrel
    go_wp2
    go_ret
    exact ⟨rfl, rfl⟩

set_option maxHeartbeats 1000000 in
theorem special_none (s : ByteArray) (k p : Nat) (w : World) (h : FText s k p) : Calls Tryz.prog 104 #[.string s] w fun e w' => e = .returned (.tuple #[.float .f64 0, .int .i64 0, .bool false]) ∧ w = w' := by
  have hz := h.few
  have hp := h.pn
  have hkp := h.kp
  have h0 : ((s.size : Int) == 0) = false := beq_eq_false_iff_ne.mpr (by omega)
  have hs : (0 : Int) < (s.size : Int) := by omega
  rcases h.k1 with rfl | ⟨rfl, hc⟩
  · obtain ⟨c, hc⟩ : ∃ c : Int, ∀ h : 0 < s.size, ((s[0]'h).toNat : Int) = c := ⟨((s[0]'(by omega)).toNat : Int), fun _ => rfl⟩
    have hd := h.dig 0 (by omega) (Nat.le_refl _) (by omega)
    rw [hc] at hd
    have b1 : (c == 43) = false := beq_eq_false_iff_ne.mpr (by omega)
    have b2 : (c == 45) = false := beq_eq_false_iff_ne.mpr (by omega)
    have b3 : (c == 105) = false := beq_eq_false_iff_ne.mpr (by omega)
    have b4 : (c == 73) = false := beq_eq_false_iff_ne.mpr (by omega)
    have b5 : (c == 110) = false := beq_eq_false_iff_ne.mpr (by omega)
    have b6 : (c == 78) = false := beq_eq_false_iff_ne.mpr (by omega)
    clear h hd
    go_enter Tryz.func104, Tryz.ntmps104
    go_wp2
    exact bodyPost_ret (results_tmp3 rfl _ _ _) rfl ⟨rfl, rfl⟩
  · have hd := h.dig 1 (by omega) (Nat.le_refl _) (by omega)
    obtain ⟨c, hc1⟩ : ∃ c : Int, ∀ h : 1 < s.size, ((s[1]'h).toNat : Int) = c := ⟨((s[1]'(by omega)).toNat : Int), fun _ => rfl⟩
    rw [hc1] at hd
    have HP := Lib.hid (fun W => prefix_none (s.extract 1 s.size) W (by simp [ByteArray.size_extract]; omega) (by simp [ByteArray.size_extract]; omega) c (fun h => by simp [ByteArray.getElem_extract, hc1]) hd)
    have h1 : (1 : Int) ≤ (s.size : Int) := by omega
    clear h hd
    go_enter Tryz.func104, Tryz.ntmps104
    go_wp2_with fail
    go_at_call 129
    refine (HP.out _).mono ?_
    rintro e w1 ⟨rfl, rfl⟩
    go_wp2
    exact bodyPost_ret (results_tmp3 rfl _ _ _) rfl ⟨rfl, rfl⟩
theorem results_tmp7 {fn : Func} {t0 t1 t2 t3 t4 t5 t6 : Tmp} (h : fn.results = #[.tmp t0, .tmp t1, .tmp t2, .tmp t3, .tmp t4, .tmp t5, .tmp t6]) (tmps : Array Value) (P : Program) (w : World) :
    (results fn tmps).run P w = .ok (.tuple #[tmps.getD t0 undef, tmps.getD t1 undef, tmps.getD t2 undef, tmps.getD t3 undef, tmps.getD t4 undef, tmps.getD t5 undef, tmps.getD t6 undef]) w := by
  simp [results, h]
end Go.Proofs.YthdnkcofcbinhaaGreatDoor

/- strconv's readFloat. -/
namespace Go.Proofs.YthdnkcofcbinhaaGreatDoor
open Go.RowKit

def FloatRead (s : ByteArray) (w : World) (e : Ending) (w' : World) : Prop := ∃ (m : Nat) (x : Int) (ng : Bool), e = .returned (.tuple #[.int .u64 m, .int .i64 x, .bool ng, .bool false, .bool false, .int .i64 s.size, .bool true]) ∧ 0 < m ∧ m < 1000000000000000 ∧ -15 ≤ x ∧ x ≤ 0 ∧ w = w'

theorem pow_step {m nd : Nat} {d : Nat} (h : m < 10 ^ nd) (hd : d ≤ 9) : m * 10 + d < 10 ^ (nd + 1) := by
  rw [Nat.pow_succ]
  omega

end Go.Proofs.YthdnkcofcbinhaaGreatDoor
