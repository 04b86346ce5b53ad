/- strconv's readFloat: two of four ways. -/
import Derived.Test.YthdnkcofcbinhaaGreatDoorPf0J
set_option linter.unusedVariables false
set_option linter.unusedSimpArgs false
namespace Go.Proofs.YthdnkcofcbinhaaGreatDoor
open Go.RowKit


set_option maxRecDepth 1000000 in
set_option maxHeartbeats 8000000 in
theorem readFloat_pos0 (s : ByteArray) (p : Nat) (w : World) (h : FText s 0 p) (h48 : ∀ h : 0 < s.size, ((s[0]'h).toNat : Int) = 48) : Calls Tryz.prog 105 #[.string s] w (FloatRead s w) := by
  have hz := h.few
  have hp := h.pn
  have hkp := h.kp
  have HT := Lib.hid h
  have hs : (0 : Int) < (s.size : Int) := by omega
  have hne : ¬ s = ByteArray.empty := fun e => by
    rw [e] at hp
    simp at hp
  have hs2 : (0 : Int) + 2 < (s.size : Int) := by omega
  have hs3 : (0 : Int) + 1 < (s.size : Int) := by omega
  obtain ⟨c1, hc1⟩ : ∃ c : Int, ∀ h : 0 < s.size, ((s[0]'h).toNat : Int) = c := ⟨((s[0]'(by omega)).toNat : Int), fun _ => rfl⟩
  obtain ⟨c2, hc2⟩ : ∃ c : Int, ∀ h : 1 < s.size, ((s[1]'h).toNat : Int) = c := ⟨((s[1]'(by omega)).toNat : Int), fun _ => rfl⟩
  have hd1 := h.dig 0 (by omega) (by omega) (by omega)
  rw [hc1] at hd1
  have hd2 : c2 = 46 ∨ (48 ≤ c2 ∧ c2 ≤ 57) := by
    by_cases hp1 : 1 = p
    · have h46 := h.dot (by omega)
      simp only [← hp1] at h46
      rw [hc2] at h46
      exact .inl h46
    · have := h.dig 1 (by omega) (by omega) hp1
      rw [hc2] at this
      exact .inr this
  have b1 : (c1 == 43) = false := beq_eq_false_iff_ne.mpr (by omega)
  have b2 : (c1 == 45) = false := beq_eq_false_iff_ne.mpr (by omega)
  have b3 : (c2 == 120) = false := beq_eq_false_iff_ne.mpr (by omega)
  have HLOW := Lib.hid (fun W => lower_any c2 W hd2)
  try simp only [Nat.zero_add, Nat.reduceAdd, Int.zero_add, Int.reduceAdd] at hc2 hs2 hs3
  have b4 : (c1 == 48) = true := beq_iff_eq.mpr (by rw [← hc1 (by omega)]; exact h48 _)
  clear h hd1 hd2 h48
  go_enter Tryz.func105, Tryz.ntmps105
  go_wp2_with fail
  go_step3
  go_wp2_with fail
  go_at_call 96
  refine (HLOW.out _).mono ?_
  rintro e w1 ⟨rfl, rfl⟩
  go_wp2
  go_step3
  go_wp2
  go_loopg [2, 5, 7, 9, 13, 14, 15, 16, 17] (s.size - 0) (fun gk v2 v5 v7 v9 v13 v14 v15 v16 v17 wr => ∃ (i m nd : Nat) (dp : Int) (sd sg : Bool), v2 = .int .u64 m ∧ v5 = .bool false ∧ v7 = .int .i64 i ∧ v9 = .bool false ∧ v13 = .bool sd ∧ v14 = .bool sg ∧ v15 = .int .i64 nd ∧ v16 = .int .i64 nd ∧ v17 = .int .i64 dp ∧
      i + gk = s.size ∧ 0 ≤ i ∧ nd ≤ i ∧ Hid (m < 10 ^ nd) ∧ -(i : Int) ≤ dp - nd ∧ dp ≤ nd ∧ Hid (sd = decide (p < i)) ∧ Hid (i = s.size → 0 < m ∧ sg = true) ∧ wr = w)
  case atStart => exact ⟨0, 0, 0, 0, false, false, rfl, rfl, rfl, rfl, rfl, rfl, rfl, rfl, rfl, by omega, by omega, by omega, Lib.hid (by decide), by omega, by omega, Lib.hid (decide_eq_false (by omega)).symm, Lib.hid (fun e => by omega), rfl⟩
  case round =>
    obtain ⟨i, m, nd, dp, sd, sg, rfl, rfl, rfl, rfl, rfl, rfl, rfl, rfl, rfl, hi, hki, hni, HM, hx1, hx2, HSD, HE, rfl⟩ := hrel
    have hm15 : m < 1000000000000000 := Nat.lt_of_lt_of_le HM.out (Nat.pow_le_pow_right (by omega) (show nd ≤ 15 by omega))
    by_cases hlt : i < s.size
    · have hlt' : (i : Int) < (s.size : Int) := by omega
      obtain ⟨c, hc⟩ : ∃ c : Int, ∀ h : i < s.size, ((s[i]'h).toNat : Int) = c := ⟨((s[i]'hlt).toNat : Int), fun _ => rfl⟩
      have HLAST : Hid (i + 1 = s.size → c ≠ 48) := Lib.hid (fun e => by
        have h := HT.out.last (by omega)
        have e2 : s.size - 1 = i := by omega
        simp only [e2] at h
        rwa [hc] at h)
      by_cases hip : i = p
      · have hcd : c = 46 := by
          subst hip
          rw [← hc hlt]
          exact HT.out.dot hlt
        have hsd : sd = false := by rw [HSD.out]; exact decide_eq_false (by omega)
        have HIP := Lib.hid hip
        clear hip
        subst hcd hsd
        go_wp2
        go_roundg (s.size - (i + 1))
        case measure => omega
        case rel => exact ⟨i + 1, m, nd, nd, true, sg, rfl, rfl, by go_num, rfl, rfl, rfl, rfl, rfl, rfl, by omega, by omega, by omega, HM, by omega, by omega, Lib.hid (decide_eq_true (by have := HIP.out; omega)).symm, Lib.hid (fun e => by have := HIP.out; omega), rfl⟩
      · have hd := HT.out.dig i hlt hki hip
        rw [hc] at hd
        obtain ⟨d1, d2⟩ := hd
        have HSD' : Hid (sd = decide (p < i + 1)) := Lib.hid (by rw [HSD.out]; exact decide_eq_decide.2 (by omega))
        clear hip HSD
        have f1 : (c == 95) = false := beq_eq_false_iff_ne.mpr (by omega)
        have f2 : (c == 46) = false := beq_eq_false_iff_ne.mpr (by omega)
        have e1 : IntKind.u64.wrap ((m : Int) * 10) = (m : Int) * 10 := by simp [IntKind.wrap, IntKind.bits, IntKind.signed]; omega
        have e2 : IntKind.u8.wrap (c - 48) = c - 48 := by simp [IntKind.wrap, IntKind.bits, IntKind.signed]; omega
        have e2' : IntKind.u64.wrap (c - 48) = c - 48 := by simp [IntKind.wrap, IntKind.bits, IntKind.signed]; omega
        have e3 : IntKind.u64.wrap ((m : Int) * 10 + (c - 48)) = (m : Int) * 10 + (c - 48) := by simp [IntKind.wrap, IntKind.bits, IntKind.signed]; omega
        have e4 : IntKind.i64.wrap (dp - 1) = dp - 1 := by simp [IntKind.wrap, IntKind.bits, IntKind.signed]; omega
        have hn19 : (nd : Int) < 19 := by omega
        rcases eq_or c 48 with ⟨b5, b5'⟩ | ⟨b5, b5'⟩
        · have hc48 : c = 48 := by simpa using b5
          by_cases hnd : nd = 0
          · subst hnd
            subst hc48
            go_wp2
            go_roundg (s.size - (i + 1))
            case measure => omega
            case rel => exact ⟨i + 1, m, 0, dp - 1, sd, true, rfl, rfl, by go_num, rfl, rfl, rfl, rfl, rfl, rfl, by omega, by omega, by omega, HM, by omega, by omega, HSD', Lib.hid (fun e => absurd rfl (HLAST.out e)), rfl⟩
          · have b6 : ((nd : Int) == 0) = false := beq_eq_false_iff_ne.mpr (by omega)
            clear hc48
            go_wp2
            go_roundg (s.size - (i + 1))
            case measure => omega
            case rel =>
              refine ⟨i + 1, m * 10 + (c - 48).toNat, nd + 1, dp, sd, true, ?_, rfl, by go_num, rfl, rfl, rfl, by go_num, by go_num, rfl, by omega, by omega, by omega, Lib.hid (pow_step HM.out (by omega)), by omega, by omega, HSD', Lib.hid (fun e => ⟨by have := HLAST.out e; omega, rfl⟩), rfl⟩
              exact congrArg (Value.int .u64) (by omega)
        · clear e4
          go_wp2
          go_roundg (s.size - (i + 1))
          case measure => omega
          case rel =>
            refine ⟨i + 1, m * 10 + (c - 48).toNat, nd + 1, dp, sd, true, ?_, rfl, by go_num, rfl, rfl, rfl, by go_num, by go_num, rfl, by omega, by omega, by omega, Lib.hid (pow_step HM.out (by omega)), by omega, by omega, HSD', Lib.hid (fun e => ⟨by have := HLAST.out e; omega, rfl⟩), rfl⟩
            exact congrArg (Value.int .u64) (by omega)
    · have hall : i = s.size := by omega
      have hsd : sd = true := by rw [HSD.out]; exact decide_eq_true (by omega)
      obtain ⟨hm0, hsg⟩ := HE.out hall
      subst hall hsd hsg
      have f1 : ((m : Int) != 0) = true := bne_iff_ne.mpr (by omega)
      have e5 : IntKind.i64.wrap (dp - (nd : Int)) = dp - (nd : Int) := by simp [IntKind.wrap, IntKind.bits, IntKind.signed]; omega
      have HM15 := Lib.hid hm15
      have HM0 := Lib.hid hm0
      clear HE HSD HM hm15 hm0
      go_wp2
      try rw [Exit.noGoto_ret]
      exact bodyPost_ret (results_tmp7 rfl _ _ _) rfl ⟨m, dp - nd, _, rfl, HM0.out, HM15.out, by omega, by omega, rfl⟩

set_option maxRecDepth 1000000 in
set_option maxHeartbeats 8000000 in
theorem readFloat_pos1 (s : ByteArray) (p : Nat) (w : World) (h : FText s 0 p) (h48 : ∀ h : 0 < s.size, ((s[0]'h).toNat : Int) ≠ 48) : Calls Tryz.prog 105 #[.string s] w (FloatRead s w) := by
  have hz := h.few
  have hp := h.pn
  have hkp := h.kp
  have HT := Lib.hid h
  have hs : (0 : Int) < (s.size : Int) := by omega
  have hne : ¬ s = ByteArray.empty := fun e => by
    rw [e] at hp
    simp at hp
  have hs2 : (0 : Int) + 2 < (s.size : Int) := by omega
  have hs3 : (0 : Int) + 1 < (s.size : Int) := by omega
  obtain ⟨c1, hc1⟩ : ∃ c : Int, ∀ h : 0 < s.size, ((s[0]'h).toNat : Int) = c := ⟨((s[0]'(by omega)).toNat : Int), fun _ => rfl⟩
  obtain ⟨c2, hc2⟩ : ∃ c : Int, ∀ h : 1 < s.size, ((s[1]'h).toNat : Int) = c := ⟨((s[1]'(by omega)).toNat : Int), fun _ => rfl⟩
  have hd1 := h.dig 0 (by omega) (by omega) (by omega)
  rw [hc1] at hd1
  have hd2 : c2 = 46 ∨ (48 ≤ c2 ∧ c2 ≤ 57) := by
    by_cases hp1 : 1 = p
    · have h46 := h.dot (by omega)
      simp only [← hp1] at h46
      rw [hc2] at h46
      exact .inl h46
    · have := h.dig 1 (by omega) (by omega) hp1
      rw [hc2] at this
      exact .inr this
  have b1 : (c1 == 43) = false := beq_eq_false_iff_ne.mpr (by omega)
  have b2 : (c1 == 45) = false := beq_eq_false_iff_ne.mpr (by omega)
  have b3 : (c2 == 120) = false := beq_eq_false_iff_ne.mpr (by omega)
  have HLOW := Lib.hid (fun W => lower_any c2 W hd2)
  try simp only [Nat.zero_add, Nat.reduceAdd, Int.zero_add, Int.reduceAdd] at hc2 hs2 hs3
  have b4 : (c1 == 48) = false := beq_eq_false_iff_ne.mpr (by rw [← hc1 (by omega)]; exact h48 _)
  clear h hd1 hd2 h48 HLOW
  go_enter Tryz.func105, Tryz.ntmps105
  go_wp2_with fail
  go_step3
  go_wp2
  go_step3
  go_wp2
  go_loopg [2, 5, 7, 9, 13, 14, 15, 16, 17] (s.size - 0) (fun gk v2 v5 v7 v9 v13 v14 v15 v16 v17 wr => ∃ (i m nd : Nat) (dp : Int) (sd sg : Bool), v2 = .int .u64 m ∧ v5 = .bool false ∧ v7 = .int .i64 i ∧ v9 = .bool false ∧ v13 = .bool sd ∧ v14 = .bool sg ∧ v15 = .int .i64 nd ∧ v16 = .int .i64 nd ∧ v17 = .int .i64 dp ∧
      i + gk = s.size ∧ 0 ≤ i ∧ nd ≤ i ∧ Hid (m < 10 ^ nd) ∧ -(i : Int) ≤ dp - nd ∧ dp ≤ nd ∧ Hid (sd = decide (p < i)) ∧ Hid (i = s.size → 0 < m ∧ sg = true) ∧ wr = w)
  case atStart => exact ⟨0, 0, 0, 0, false, false, rfl, rfl, rfl, rfl, rfl, rfl, rfl, rfl, rfl, by omega, by omega, by omega, Lib.hid (by decide), by omega, by omega, Lib.hid (decide_eq_false (by omega)).symm, Lib.hid (fun e => by omega), rfl⟩
  case round =>
    obtain ⟨i, m, nd, dp, sd, sg, rfl, rfl, rfl, rfl, rfl, rfl, rfl, rfl, rfl, hi, hki, hni, HM, hx1, hx2, HSD, HE, rfl⟩ := hrel
    have hm15 : m < 1000000000000000 := Nat.lt_of_lt_of_le HM.out (Nat.pow_le_pow_right (by omega) (show nd ≤ 15 by omega))
    by_cases hlt : i < s.size
    · have hlt' : (i : Int) < (s.size : Int) := by omega
      obtain ⟨c, hc⟩ : ∃ c : Int, ∀ h : i < s.size, ((s[i]'h).toNat : Int) = c := ⟨((s[i]'hlt).toNat : Int), fun _ => rfl⟩
      have HLAST : Hid (i + 1 = s.size → c ≠ 48) := Lib.hid (fun e => by
        have h := HT.out.last (by omega)
        have e2 : s.size - 1 = i := by omega
        simp only [e2] at h
        rwa [hc] at h)
      by_cases hip : i = p
      · have hcd : c = 46 := by
          subst hip
          rw [← hc hlt]
          exact HT.out.dot hlt
        have hsd : sd = false := by rw [HSD.out]; exact decide_eq_false (by omega)
        have HIP := Lib.hid hip
        clear hip
        subst hcd hsd
        go_wp2
        go_roundg (s.size - (i + 1))
        case measure => omega
        case rel => exact ⟨i + 1, m, nd, nd, true, sg, rfl, rfl, by go_num, rfl, rfl, rfl, rfl, rfl, rfl, by omega, by omega, by omega, HM, by omega, by omega, Lib.hid (decide_eq_true (by have := HIP.out; omega)).symm, Lib.hid (fun e => by have := HIP.out; omega), rfl⟩
      · have hd := HT.out.dig i hlt hki hip
        rw [hc] at hd
        obtain ⟨d1, d2⟩ := hd
        have HSD' : Hid (sd = decide (p < i + 1)) := Lib.hid (by rw [HSD.out]; exact decide_eq_decide.2 (by omega))
        clear hip HSD
        have f1 : (c == 95) = false := beq_eq_false_iff_ne.mpr (by omega)
        have f2 : (c == 46) = false := beq_eq_false_iff_ne.mpr (by omega)
        have e1 : IntKind.u64.wrap ((m : Int) * 10) = (m : Int) * 10 := by simp [IntKind.wrap, IntKind.bits, IntKind.signed]; omega
        have e2 : IntKind.u8.wrap (c - 48) = c - 48 := by simp [IntKind.wrap, IntKind.bits, IntKind.signed]; omega
        have e2' : IntKind.u64.wrap (c - 48) = c - 48 := by simp [IntKind.wrap, IntKind.bits, IntKind.signed]; omega
        have e3 : IntKind.u64.wrap ((m : Int) * 10 + (c - 48)) = (m : Int) * 10 + (c - 48) := by simp [IntKind.wrap, IntKind.bits, IntKind.signed]; omega
        have e4 : IntKind.i64.wrap (dp - 1) = dp - 1 := by simp [IntKind.wrap, IntKind.bits, IntKind.signed]; omega
        have hn19 : (nd : Int) < 19 := by omega
        rcases eq_or c 48 with ⟨b5, b5'⟩ | ⟨b5, b5'⟩
        · have hc48 : c = 48 := by simpa using b5
          by_cases hnd : nd = 0
          · subst hnd
            subst hc48
            go_wp2
            go_roundg (s.size - (i + 1))
            case measure => omega
            case rel => exact ⟨i + 1, m, 0, dp - 1, sd, true, rfl, rfl, by go_num, rfl, rfl, rfl, rfl, rfl, rfl, by omega, by omega, by omega, HM, by omega, by omega, HSD', Lib.hid (fun e => absurd rfl (HLAST.out e)), rfl⟩
          · have b6 : ((nd : Int) == 0) = false := beq_eq_false_iff_ne.mpr (by omega)
            clear hc48
            go_wp2
            go_roundg (s.size - (i + 1))
            case measure => omega
            case rel =>
              refine ⟨i + 1, m * 10 + (c - 48).toNat, nd + 1, dp, sd, true, ?_, rfl, by go_num, rfl, rfl, rfl, by go_num, by go_num, rfl, by omega, by omega, by omega, Lib.hid (pow_step HM.out (by omega)), by omega, by omega, HSD', Lib.hid (fun e => ⟨by have := HLAST.out e; omega, rfl⟩), rfl⟩
              exact congrArg (Value.int .u64) (by omega)
        · clear e4
          go_wp2
          go_roundg (s.size - (i + 1))
          case measure => omega
          case rel =>
            refine ⟨i + 1, m * 10 + (c - 48).toNat, nd + 1, dp, sd, true, ?_, rfl, by go_num, rfl, rfl, rfl, by go_num, by go_num, rfl, by omega, by omega, by omega, Lib.hid (pow_step HM.out (by omega)), by omega, by omega, HSD', Lib.hid (fun e => ⟨by have := HLAST.out e; omega, rfl⟩), rfl⟩
            exact congrArg (Value.int .u64) (by omega)
    · have hall : i = s.size := by omega
      have hsd : sd = true := by rw [HSD.out]; exact decide_eq_true (by omega)
      obtain ⟨hm0, hsg⟩ := HE.out hall
      subst hall hsd hsg
      have f1 : ((m : Int) != 0) = true := bne_iff_ne.mpr (by omega)
      have e5 : IntKind.i64.wrap (dp - (nd : Int)) = dp - (nd : Int) := by simp [IntKind.wrap, IntKind.bits, IntKind.signed]; omega
      have HM15 := Lib.hid hm15
      have HM0 := Lib.hid hm0
      clear HE HSD HM hm15 hm0
      go_wp2
      try rw [Exit.noGoto_ret]
      exact bodyPost_ret (results_tmp7 rfl _ _ _) rfl ⟨m, dp - nd, _, rfl, HM0.out, HM15.out, by omega, by omega, rfl⟩
end Go.Proofs.YthdnkcofcbinhaaGreatDoor
