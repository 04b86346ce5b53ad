/- The text of a list's node; Render. -/
import Derived.Test.YtkafelcnpnlbfaaDoorRn1
namespace Go.Proofs.YtkafelcnpnlbfaaDoor
open Go.RowKit

set_option maxRecDepth 100000 in
set_option maxHeartbeats 4000000 in
theorem seq_text (D : Nat) (ihm : RendersAt 27 5 D) : RendersAt 28 4 (D + 1) := by
  intro v b E w S ind hn hp hpl hk hsz
  obtain ⟨_, ⟨_, _, hsc, _⟩ | ⟨_, A, c, hb, hit⟩ | ⟨hk5, _⟩⟩ := hn
  · rcases hsc with ⟨h, _⟩ | ⟨h, _⟩ <;> omega
  rotate_left
  · omega
  obtain ⟨E', hlen, hplx⟩ : ∃ E', v.items.length ≤ 60 ∧ ∀ i (h : i < v.items.length), Plain E' v.items[i] := by
    cases E with
    | zero => rcases hpl with h | h | h | h | h <;> omega
    | succ E =>
      rcases hpl with h | h | h
      · rcases h with h | h | h | h | h <;> omega
      · exact ⟨E, h.2.2.2.2.1, h.2.2.2.2.2⟩
      · have := h.1; omega
  obtain ⟨_, _, _, _, _, _, hpx, hnl⟩ := hp
  have HPX := Lib.hid (hpx (by omega))
  have HNL := Lib.hid (hnl hk)
  have HPL := Lib.hid hplx
  have HIT := Lib.hid hit
  have IHM := Lib.hid ihm
  rw [tx_seq hk] at hsz ⊢
  have ei : bs (ind ++ ⟨#[32, 32]⟩) = bs ind ++ [32, 32] := bs_app _ _
  rw [← ei] at hsz ⊢
  clear hpx hnl hplx hit ihm hk hpl
  obtain ⟨whole, hw⟩ : ∃ W, 91 :: 10 :: (seqL (tx D (bs (ind ++ ⟨#[32, 32]⟩))) (bs (ind ++ ⟨#[32, 32]⟩)) v.items ++ (bs ind ++ [93])) = W := ⟨_, rfl⟩
  rw [hw] at hsz ⊢
  have HW := Lib.hid hw
  have hi1 : ¬ (9223372036854775807 < ind.size + 2) := by
    have := congrArg List.length hw
    simp [bs_len] at this
    omega
  have HEI := Lib.hid ei
  clear hw ei
  have b6 : w.cell? ⟨b, 6, none⟩ = some (.slice A v.items.length c) := (blk_cell hb 6).trans rfl
  clear hb
  go_enter Tryd.func28, Tryd.ntmps28
  go_wp2
  go_loopg [4, 6] v.items.length (fun gk v4 v6 wr => w = wr ∧ ∃ (i : Nat) (r : ByteArray), v4 = .string r ∧ v6 = .int .i64 i ∧ i + gk = v.items.length ∧
    Hid (Fits r (seqL (tx D (bs (ind ++ ⟨#[32, 32]⟩))) (bs (ind ++ ⟨#[32, 32]⟩)) (v.items.drop i) ++ (bs ind ++ [93])) whole))
  case atStart => exact ⟨rfl, 0, _, rfl, rfl, by omega, Lib.hid (by rw [← HW.out]; rfl)⟩
  case round =>
    obtain ⟨rfl, i, r, rfl, rfl, hj, HF⟩ := hrel
    by_cases hlt : i < v.items.length
    · obtain ⟨g, n, hA, _, hc2, hnode⟩ := HIT.out i hlt
      cases hA
      have hF := HF.out
      rw [seqL_at _ _ hlt] at hF
      have hprx := HPX.out i hlt
      have hplx := HPL.out i hlt
      have hnlx := HNL.out i hlt
      have HLAST := Lib.hid (fun h : i + 1 = v.items.length => sep_last (xs := v.items) (i := i) h)
      have HMORE := Lib.hid (fun h : i + 1 < v.items.length => sep_more (xs := v.items) (i := i) h)
      obtain ⟨x, hx⟩ : ∃ x, v.items[i] = x := ⟨_, rfl⟩
      rw [hx] at hnode hF hprx hplx hnlx
      have HN := Lib.hid hnode
      have HPRX := Lib.hid hprx
      have HPLX := Lib.hid hplx
      have HNLX := Lib.hid hnlx
      clear hx hnode HF hprx hplx hnlx
      generalize sep (v.items.drop (i + 1)) = sp at hF HLAST HMORE
      generalize hR : seqL (tx D (bs (ind ++ ⟨#[32, 32]⟩))) (bs (ind ++ ⟨#[32, 32]⟩)) (v.items.drop (i + 1)) ++ (bs ind ++ [93]) = R
      have HR := Lib.hid hR
      have HF1 : Hid (Fits r (bs (ind ++ ⟨#[32, 32]⟩) ++ (tx D (bs (ind ++ ⟨#[32, 32]⟩)) x ++ (sp ++ (10 :: R)))) whole) := Lib.hid (by rw [← hR]; simpa [bs_app, bs] using hF)
      clear hF hR
      have j0 : (i : Int) < (v.items.length : Int) := by omega
      have HS2 := Lib.hid (HF1.out.size)
      generalize hinn : ind ++ ⟨#[32, 32]⟩ = inn at *
      rcases HN.out.parts with ⟨D', val, hD, hsc, hb8⟩ | ⟨D', val, hD, hsc, hb8⟩ | ⟨hk, c', hb8⟩ | ⟨hk, c', hb8⟩
      · have n0 : w.cell? ⟨n, 0, none⟩ = some (.int .u32 8) := (blk_cell hb8 0).trans rfl
        have n2 : w.cell? ⟨n, 2, none⟩ = some (.string ⟨#[33, 33, 98, 111, 111, 108]⟩) := (blk_cell hb8 2).trans rfl
        have n3 : w.cell? ⟨n, 3, none⟩ = some (.string val) := (blk_cell hb8 3).trans rfl
        have HF2 := Lib.hid (HF1.out.app (s := inn ++ val) (rest := sp ++ (10 :: R)) (by rw [hD, tx_bool hsc]; simp [bs_app]))
        have HD := Lib.hid hD
        have hz := HF2.out.size
        simp only [ByteArray.size_append] at hz
        have y1 : ¬ (9223372036854775807 < inn.size + val.size) := by omega
        clear hb8 hsc hD hz
        rcases Nat.lt_or_ge (i + 1) v.items.length with hl | hl
        · have j3 : (i : Int) < (v.items.length : Int) - 1 := by omega
          have HF3 := Lib.hid ((HF2.out.app (s := ⟨#[44]⟩) (rest := 10 :: R) (by rw [HMORE.out hl])).app (s := ⟨#[10]⟩) (rest := R) rfl)
          have hz3 := HF3.out.size
          have d1 : (⟨#[44]⟩ : ByteArray).size = 1 := rfl
          have d2 : (⟨#[10]⟩ : ByteArray).size = 1 := rfl
          have d3 : (⟨#[34]⟩ : ByteArray).size = 1 := rfl
          have d4 : (⟨#[]⟩ : ByteArray).size = 0 := rfl
          simp only [ByteArray.size_append, d1, d2, d3, d4, Nat.add_zero] at hz3
          have HL := Lib.hid hl
          clear d1 d2 d3 d4 hl
          have z1 : ¬ (9223372036854775807 < r.size + (inn.size + val.size)) := by omega
          have z2 : ¬ (9223372036854775807 < r.size + (inn.size + val.size) + 1) := by omega
          have z3 : ¬ (9223372036854775807 < r.size + (inn.size + val.size) + 1 + 1) := by omega
          clear hz3
          go_wp2
          go_roundg (v.items.length - (i + 1))
          case measure => omega
          case rel => exact ⟨rfl, i + 1, _, rfl, by go_num, by omega, Lib.hid (by rw [HR.out]; exact HF3.out)⟩
        · have j3 : ¬ (i : Int) < (v.items.length : Int) - 1 := by omega
          have HF3 := Lib.hid (HF2.out.app (s := ⟨#[10]⟩) (rest := R) (by rw [HLAST.out (by omega)]; rfl))
          have hz3 := HF3.out.size
          have d2 : (⟨#[10]⟩ : ByteArray).size = 1 := rfl
          have d3 : (⟨#[34]⟩ : ByteArray).size = 1 := rfl
          have d4 : (⟨#[]⟩ : ByteArray).size = 0 := rfl
          simp only [ByteArray.size_append, d2, d3, d4, Nat.add_zero] at hz3
          have HL := Lib.hid hl
          clear d2 d3 d4 hl
          have z1 : ¬ (9223372036854775807 < r.size + (inn.size + val.size)) := by omega
          have z2 : ¬ (9223372036854775807 < r.size + (inn.size + val.size) + 1) := by omega
          clear hz3
          go_wp2
          go_roundg (v.items.length - (i + 1))
          case measure => omega
          case rel => exact ⟨rfl, i + 1, _, rfl, by go_num, by omega, Lib.hid (by rw [HR.out]; exact HF3.out)⟩
      · have n0 : w.cell? ⟨n, 0, none⟩ = some (.int .u32 8) := (blk_cell hb8 0).trans rfl
        have n2 : w.cell? ⟨n, 2, none⟩ = some (.string ⟨#[33, 33, 115, 116, 114]⟩) := (blk_cell hb8 2).trans rfl
        have n3 : w.cell? ⟨n, 3, none⟩ = some (.string val) := (blk_cell hb8 3).trans rfl
        have HF2 := Lib.hid (HF1.out.app (s := inn ++ ⟨#[34]⟩ ++ val ++ ⟨#[34]⟩) (rest := sp ++ (10 :: R)) (by rw [hD, tx_str hsc]; simp [bs_app, bs]))
        have HD := Lib.hid hD
        have hz := HF2.out.size
        have d3 : (⟨#[34]⟩ : ByteArray).size = 1 := rfl
        simp only [ByteArray.size_append, d3] at hz
        have y0 : ¬ (9223372036854775807 < inn.size + 1) := by omega
        have y1 : ¬ (9223372036854775807 < inn.size + 1 + val.size) := by omega
        have y2 : ¬ (9223372036854775807 < inn.size + 1 + val.size + 1) := by omega
        clear hb8 hsc hD hz d3
        rcases Nat.lt_or_ge (i + 1) v.items.length with hl | hl
        · have j3 : (i : Int) < (v.items.length : Int) - 1 := by omega
          have HF3 := Lib.hid ((HF2.out.app (s := ⟨#[44]⟩) (rest := 10 :: R) (by rw [HMORE.out hl])).app (s := ⟨#[10]⟩) (rest := R) rfl)
          have hz3 := HF3.out.size
          have d1 : (⟨#[44]⟩ : ByteArray).size = 1 := rfl
          have d2 : (⟨#[10]⟩ : ByteArray).size = 1 := rfl
          have d3 : (⟨#[34]⟩ : ByteArray).size = 1 := rfl
          have d4 : (⟨#[]⟩ : ByteArray).size = 0 := rfl
          simp only [ByteArray.size_append, d1, d2, d3, d4, Nat.add_zero] at hz3
          have HL := Lib.hid hl
          clear d1 d2 d3 d4 hl
          have z1 : ¬ (9223372036854775807 < r.size + (inn.size + 1 + val.size + 1)) := by omega
          have z2 : ¬ (9223372036854775807 < r.size + (inn.size + 1 + val.size + 1) + 1) := by omega
          have z3 : ¬ (9223372036854775807 < r.size + (inn.size + 1 + val.size + 1) + 1 + 1) := by omega
          clear hz3
          go_wp2
          go_roundg (v.items.length - (i + 1))
          case measure => omega
          case rel => exact ⟨rfl, i + 1, _, rfl, by go_num, by omega, Lib.hid (by rw [HR.out]; exact HF3.out)⟩
        · have j3 : ¬ (i : Int) < (v.items.length : Int) - 1 := by omega
          have HF3 := Lib.hid (HF2.out.app (s := ⟨#[10]⟩) (rest := R) (by rw [HLAST.out (by omega)]; rfl))
          have hz3 := HF3.out.size
          have d2 : (⟨#[10]⟩ : ByteArray).size = 1 := rfl
          have d3 : (⟨#[34]⟩ : ByteArray).size = 1 := rfl
          have d4 : (⟨#[]⟩ : ByteArray).size = 0 := rfl
          simp only [ByteArray.size_append, d2, d3, d4, Nat.add_zero] at hz3
          have HL := Lib.hid hl
          clear d2 d3 d4 hl
          have z1 : ¬ (9223372036854775807 < r.size + (inn.size + 1 + val.size + 1)) := by omega
          have z2 : ¬ (9223372036854775807 < r.size + (inn.size + 1 + val.size + 1) + 1) := by omega
          clear hz3
          go_wp2
          go_roundg (v.items.length - (i + 1))
          case measure => omega
          case rel => exact ⟨rfl, i + 1, _, rfl, by go_num, by omega, Lib.hid (by rw [HR.out]; exact HF3.out)⟩
      · exact absurd hk HNLX.out
      · have n0 : w.cell? ⟨n, 0, none⟩ = some (.int .u32 4) := (blk_cell hb8 0).trans rfl
        have hcall := IHM.out x n E' w S inn HN.out HPRX.out HPLX.out hk (by have := HS2.out; simp at this; omega)
        clear hb8
        go_wp2_with fail
        go_at_call 27
        refine hcall.mono ?_
        rintro e w1 ⟨s, rfl, hs, rfl⟩
        have HF2 := Lib.hid (HF1.out.app (s := inn ++ s ++ ⟨#[]⟩) (rest := sp ++ (10 :: R)) (by simp [bs_app, hs, bs]))
        clear hs
        have hz := HF2.out.size
        have d3 : (⟨#[]⟩ : ByteArray).size = 0 := rfl
        simp only [ByteArray.size_append, d3, Nat.add_zero] at hz
        have y0 : ¬ (9223372036854775807 < inn.size + s.size) := by omega
        clear hz d3
        rcases Nat.lt_or_ge (i + 1) v.items.length with hl | hl
        · have j3 : (i : Int) < (v.items.length : Int) - 1 := by omega
          have HF3 := Lib.hid ((HF2.out.app (s := ⟨#[44]⟩) (rest := 10 :: R) (by rw [HMORE.out hl])).app (s := ⟨#[10]⟩) (rest := R) rfl)
          have hz3 := HF3.out.size
          have d1 : (⟨#[44]⟩ : ByteArray).size = 1 := rfl
          have d2 : (⟨#[10]⟩ : ByteArray).size = 1 := rfl
          have d3 : (⟨#[34]⟩ : ByteArray).size = 1 := rfl
          have d4 : (⟨#[]⟩ : ByteArray).size = 0 := rfl
          simp only [ByteArray.size_append, d1, d2, d3, d4, Nat.add_zero] at hz3
          have HL := Lib.hid hl
          clear d1 d2 d3 d4 hl
          have z1 : ¬ (9223372036854775807 < r.size + (inn.size + s.size)) := by omega
          have z2 : ¬ (9223372036854775807 < r.size + (inn.size + s.size) + 1) := by omega
          have z3 : ¬ (9223372036854775807 < r.size + (inn.size + s.size) + 1 + 1) := by omega
          clear hz3
          go_wp2
          go_roundg (v.items.length - (i + 1))
          case measure => omega
          case rel => exact ⟨rfl, i + 1, _, rfl, by go_num, by omega, Lib.hid (by rw [HR.out]; exact HF3.out)⟩
        · have j3 : ¬ (i : Int) < (v.items.length : Int) - 1 := by omega
          have HF3 := Lib.hid (HF2.out.app (s := ⟨#[10]⟩) (rest := R) (by rw [HLAST.out (by omega)]; rfl))
          have hz3 := HF3.out.size
          have d2 : (⟨#[10]⟩ : ByteArray).size = 1 := rfl
          have d3 : (⟨#[34]⟩ : ByteArray).size = 1 := rfl
          have d4 : (⟨#[]⟩ : ByteArray).size = 0 := rfl
          simp only [ByteArray.size_append, d2, d3, d4, Nat.add_zero] at hz3
          have HL := Lib.hid hl
          clear d2 d3 d4 hl
          have z1 : ¬ (9223372036854775807 < r.size + (inn.size + s.size)) := by omega
          have z2 : ¬ (9223372036854775807 < r.size + (inn.size + s.size) + 1) := by omega
          clear hz3
          go_wp2
          go_roundg (v.items.length - (i + 1))
          case measure => omega
          case rel => exact ⟨rfl, i + 1, _, rfl, by go_num, by omega, Lib.hid (by rw [HR.out]; exact HF3.out)⟩
    · have hF := HF.out
      rw [seqL_end _ _ (by omega)] at hF
      have HF2 := Lib.hid ((show Fits r (bs ind ++ [93]) whole from hF).app (s := ind ++ ⟨#[93]⟩) (rest := []) (by simp [bs_app, bs]))
      have hz := HF2.out.size
      have d3 : (⟨#[93]⟩ : ByteArray).size = 1 := rfl
      simp only [ByteArray.size_append, d3] at hz
      have y1 : ¬ (9223372036854775807 < ind.size + 1) := by omega
      have y2 : ¬ (9223372036854775807 < r.size + (ind.size + 1)) := by omega
      clear hF hz d3
      obtain rfl : i = v.items.length := by omega
      go_wp2
      go_ret
      exact ⟨_, rfl, by have := HF2.out; simpa [Fits] using this, rfl⟩

theorem renders (D : Nat) : RendersAt 27 5 D ∧ RendersAt 28 4 D := by
  induction D with
  | zero => exact ⟨fun _ _ _ _ _ _ h => h.elim, fun _ _ _ _ _ _ h => h.elim⟩
  | succ D ih => exact ⟨map_text D ih.1 ih.2, seq_text D ih.1⟩
end Go.Proofs.YtkafelcnpnlbfaaDoor
