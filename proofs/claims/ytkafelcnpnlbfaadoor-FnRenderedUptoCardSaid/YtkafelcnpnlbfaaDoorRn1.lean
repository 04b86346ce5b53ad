/- The text of a map's node. -/
import Derived.Test.YtkafelcnpnlbfaaDoorSp3
import Derived.Test.YtkafelcnpnlbfaaDoorTx
import Derived.Deep.Cut
import Derived.Deep.CutRange
namespace Go.Proofs.YtkafelcnpnlbfaaDoor
open Go.RowKit

/-- What a renderer gives. -/
def GivesText (t : List UInt8) (w : World) (e : Ending) (w' : World) : Prop := ∃ s : ByteArray, e = .returned (.string s) ∧ bs s = t ∧ w = w'
/-- A renderer's contract at a depth. -/
def RendersAt (f : Nat) (kd : Int) (D : Nat) : Prop := ∀ (v : Dat) (b E : Nat) (w : World) (S : Nat → Prop) (ind : ByteArray), NodeOf S w D v b → Prn v → Plain E v → v.kind = kd → (tx D (bs ind) v).length ≤ 9223372036854775807 →
  Calls Tryd.prog f #[.pointer (some ⟨b, 0, none⟩), .string ind] w (GivesText (tx D (bs ind) v) w)

set_option maxRecDepth 100000 in
set_option maxHeartbeats 4000000 in
theorem map_text (D : Nat) (ihm : RendersAt 27 5 D) (ihs : RendersAt 28 4 D) : RendersAt 27 5 (D + 1) := by
  intro v b E w S ind hn hp hpl hk hsz
  obtain ⟨_, ⟨_, _, hsc, _⟩ | ⟨hk4, _⟩ | ⟨_, hkl, A, c, hb, hit⟩⟩ := hn
  · rcases hsc with ⟨h, _⟩ | ⟨h, _⟩ <;> omega
  · omega
  obtain ⟨E', hlen, hplx⟩ : ∃ E', v.items.length ≤ 60 ∧ ∀ i (h : i < v.items.length), Plain E' v.items[i] := by
    cases E with
    | zero => rcases hpl with h | h | h | h | h <;> omega
    | succ E =>
      rcases hpl with h | h | h
      · rcases h with h | h | h | h | h <;> omega
      · have := h.1; omega
      · exact ⟨E, h.2.2.2.2.1, h.2.2.2.2.2.2⟩
  obtain ⟨_, _, _, _, _, _, hpx, _⟩ := hp
  have HPX := Lib.hid (hpx (by omega))
  have HPL := Lib.hid hplx
  have HKL := Lib.hid hkl
  have HIT := Lib.hid hit
  have IHM := Lib.hid ihm
  have IHS := Lib.hid ihs
  rw [tx_map hk] at hsz ⊢
  have ei : bs (ind ++ ⟨#[32, 32]⟩) = bs ind ++ [32, 32] := bs_app _ _
  rw [← ei] at hsz ⊢
  clear hpx hplx hkl hit ihm ihs hk hpl
  obtain ⟨whole, hw⟩ : ∃ W, 123 :: 10 :: (mapL (tx D (bs (ind ++ ⟨#[32, 32]⟩))) (bs (ind ++ ⟨#[32, 32]⟩)) v.keys v.items ++ (bs ind ++ [125])) = W := ⟨_, rfl⟩
  rw [hw] at hsz ⊢
  have HW := Lib.hid hw
  have hi1 : ¬ (9223372036854775807 < ind.size + 2) := by
    have := congrArg List.length hw
    simp [bs_len] at this
    omega
  obtain ⟨m, hm⟩ : ∃ m, 2 * v.items.length = m := ⟨_, rfl⟩
  rw [hm] at hb
  have HM := Lib.hid hm
  have hm120 : m ≤ 120 := by omega
  have HEI := Lib.hid ei
  clear hw hm ei
  have b6 : w.cell? ⟨b, 6, none⟩ = some (.slice A m c) := (blk_cell hb 6).trans rfl
  clear hb
  go_enter Tryd.func27, Tryd.ntmps27
  go_wp2
  go_loopg [4, 6] m (fun gk v4 v6 wr => w = wr ∧ ∃ (i j : Nat) (r : ByteArray), v4 = .string r ∧ v6 = .int .i64 j ∧ Hid (j = 2 * i) ∧ j + gk = m ∧
    Hid (Fits r (mapL (tx D (bs (ind ++ ⟨#[32, 32]⟩))) (bs (ind ++ ⟨#[32, 32]⟩)) (v.keys.drop i) (v.items.drop i) ++ (bs ind ++ [125])) whole))
  case atStart => exact ⟨rfl, 0, 0, _, rfl, rfl, Lib.hid rfl, by omega, Lib.hid (by rw [← HW.out]; rfl)⟩
  case round =>
    obtain ⟨rfl, i, j, r, rfl, rfl, HJ, hj, HF⟩ := hrel
    by_cases hlt : i < v.items.length
    · have hki : i < v.keys.length := by have := HKL.out; omega
      have hjm : j + 1 < m := by have := HJ.out; have := HM.out; omega
      obtain ⟨g, k, n, hA, hc1, hc2, hkb, hnode⟩ : ∃ g k n, A = some ⟨g, 0, none⟩ ∧ w.cell? ⟨g, j, none⟩ = some (.pointer (some ⟨k, 0, none⟩)) ∧ w.cell? ⟨g, j + 1, none⟩ = some (.pointer (some ⟨n, 0, none⟩)) ∧
          w.heap[k]? = some (nodeBlk 8 tStr v.keys[i] (.slice none 0 0)) ∧ NodeOf S w D v.items[i] n := by
        obtain ⟨g, k, n, h1, _, h2, h3, _, h4, h5⟩ := HIT.out i hlt hki
        rw [HJ.out]
        exact ⟨g, k, n, h1, h2, h3, h4, h5⟩
      cases hA
      have k3 : w.cell? ⟨k, 3, none⟩ = some (.string v.keys[i]) := (blk_cell hkb 3).trans rfl
      have hF := HF.out
      rw [mapL_at _ _ hki hlt] at hF
      have hprx := HPX.out i hlt
      have hplx := HPL.out i hlt
      have HLAST := Lib.hid (fun h : i + 1 = v.items.length => sep_last (xs := v.items) (i := i) h)
      have HMORE := Lib.hid (fun h : i + 1 < v.items.length => sep_more (xs := v.items) (i := i) h)
      obtain ⟨x, hx⟩ : ∃ x, v.items[i] = x := ⟨_, rfl⟩
      obtain ⟨key, hkey⟩ : ∃ s, v.keys[i] = s := ⟨_, rfl⟩
      rw [hkey] at k3 hF
      rw [hx] at hnode hF hprx hplx
      have HN := Lib.hid hnode
      have HPRX := Lib.hid hprx
      have HPLX := Lib.hid hplx
      clear hkb hx hkey hnode HF hprx hplx
      generalize sep (v.items.drop (i + 1)) = sp at hF HLAST HMORE
      generalize hR : mapL (tx D (bs (ind ++ ⟨#[32, 32]⟩))) (bs (ind ++ ⟨#[32, 32]⟩)) (v.keys.drop (i + 1)) (v.items.drop (i + 1)) ++ (bs ind ++ [125]) = R
      have HR := Lib.hid hR
      have hF1 : Fits (r ++ (ind ++ ⟨#[32, 32]⟩ ++ ⟨#[34]⟩ ++ key ++ ⟨#[34, 58, 32]⟩)) (tx D (bs (ind ++ ⟨#[32, 32]⟩)) x ++ (sp ++ (10 :: R))) whole := hF.app (by rw [← hR]; simp [bs_app, bs])
      have hs1 := hF1.size
      simp only [ByteArray.size_append] at hs1
      have HF1 := Lib.hid hF1
      clear hF hR hF1
      have e2 : (⟨#[32, 32]⟩ : ByteArray).size = 2 := rfl
      have e1 : (⟨#[34]⟩ : ByteArray).size = 1 := rfl
      have e3 : (⟨#[34, 58, 32]⟩ : ByteArray).size = 3 := rfl
      rw [e1, e2, e3] at hs1
      clear e1 e2 e3
      have c1 : ¬ (9223372036854775807 < ind.size + 2 + 1) := by omega
      have c2 : ¬ (9223372036854775807 < ind.size + 2 + 1 + key.size) := by omega
      have c3 : ¬ (9223372036854775807 < ind.size + 2 + 1 + key.size + 3) := by omega
      have c4 : ¬ (9223372036854775807 < r.size + (ind.size + 2 + 1 + key.size + 3)) := by omega
      have HS1 := Lib.hid hs1
      clear hs1
      have j0 : (j : Int) < (m : Int) := by omega
      have j1 : (j : Int) + 1 < (m : Int) := by omega
      go_upto_region 9 with fail
      clear c1 c2 c3 c4 hc1 hc2 k3 j1
      have HS2 := Lib.hid (HF1.out.size)
      generalize r ++ (ind ++ ⟨#[32, 32]⟩ ++ ⟨#[34]⟩ ++ key ++ ⟨#[34, 58, 32]⟩) = r1 at HF1 HS2
      generalize hinn : ind ++ ⟨#[32, 32]⟩ = inn at *
      have j2 : (j : Int) + 2 ≤ (m : Int) := by omega
      have HJM : Hid ((i + 1 < v.items.length → (j : Int) < (m : Int) - 2) ∧ (i + 1 = v.items.length → ¬ (j : Int) < (m : Int) - 2)) := Lib.hid (by have := HJ.out; have := HM.out; omega)
      rcases HN.out.parts with ⟨D', val, hD, hsc, hb8⟩ | ⟨D', val, hD, hsc, hb8⟩ | ⟨hk, c', hb8⟩ | ⟨hk, c', hb8⟩
      · have n0 : w.cell? ⟨n, 0, none⟩ = some (.int .u32 8) := (blk_cell hb8 0).trans rfl
        have n2 : w.cell? ⟨n, 2, none⟩ = some (.string ⟨#[33, 33, 98, 111, 111, 108]⟩) := (blk_cell hb8 2).trans rfl
        have n3 : w.cell? ⟨n, 3, none⟩ = some (.string val) := (blk_cell hb8 3).trans rfl
        have HF2 := Lib.hid (HF1.out.app (s := val) (rest := sp ++ (10 :: R)) (by rw [hD, tx_bool hsc]))
        have HD := Lib.hid hD
        clear hb8 hsc hD
        rcases Nat.lt_or_ge (i + 1) v.items.length with hl | hl
        · have j3 : (j : Int) < (m : Int) - 2 := HJM.out.1 hl
          have HF3 := Lib.hid ((HF2.out.app (s := ⟨#[44]⟩) (rest := 10 :: R) (by rw [HMORE.out hl])).app (s := ⟨#[10]⟩) (rest := R) rfl)
          have hz3 := HF3.out.size
          have d1 : (⟨#[44]⟩ : ByteArray).size = 1 := rfl
          have d2 : (⟨#[10]⟩ : ByteArray).size = 1 := rfl
          have d3 : (⟨#[34]⟩ : ByteArray).size = 1 := rfl
          simp only [ByteArray.size_append, d1, d2, d3] at hz3
          have HL := Lib.hid hl
          clear d1 d2 d3 hl
          have z1 : ¬ (9223372036854775807 < r1.size + (val.size)) := by omega
          have z2 : ¬ (9223372036854775807 < r1.size + (val.size) + 1) := by omega
          have z3 : ¬ (9223372036854775807 < r1.size + (val.size) + 1 + 1) := by omega
          clear hz3
          go_wp2
          go_roundg (m - (j + 2))
          case measure => omega
          case rel => exact ⟨rfl, i + 1, j + 2, _, rfl, by go_num, Lib.hid (by have := HJ.out; omega), by omega, Lib.hid (by rw [HR.out]; exact HF3.out)⟩
        · have j3 : ¬ (j : Int) < (m : Int) - 2 := by have := HJM.out.2 (by omega); omega
          have HF3 := Lib.hid (HF2.out.app (s := ⟨#[10]⟩) (rest := R) (by rw [HLAST.out (by omega)]; rfl))
          have hz3 := HF3.out.size
          have d2 : (⟨#[10]⟩ : ByteArray).size = 1 := rfl
          have d3 : (⟨#[34]⟩ : ByteArray).size = 1 := rfl
          simp only [ByteArray.size_append, d2, d3] at hz3
          have HL := Lib.hid hl
          clear d2 d3 hl
          have z1 : ¬ (9223372036854775807 < r1.size + (val.size)) := by omega
          have z2 : ¬ (9223372036854775807 < r1.size + (val.size) + 1) := by omega
          clear hz3
          go_wp2
          go_roundg (m - (j + 2))
          case measure => omega
          case rel => exact ⟨rfl, i + 1, j + 2, _, rfl, by go_num, Lib.hid (by have := HJ.out; omega), by omega, Lib.hid (by rw [HR.out]; exact HF3.out)⟩
      · have n0 : w.cell? ⟨n, 0, none⟩ = some (.int .u32 8) := (blk_cell hb8 0).trans rfl
        have n2 : w.cell? ⟨n, 2, none⟩ = some (.string ⟨#[33, 33, 115, 116, 114]⟩) := (blk_cell hb8 2).trans rfl
        have n3 : w.cell? ⟨n, 3, none⟩ = some (.string val) := (blk_cell hb8 3).trans rfl
        have HF2 := Lib.hid (HF1.out.app (s := ⟨#[34]⟩ ++ val ++ ⟨#[34]⟩) (rest := sp ++ (10 :: R)) (by rw [hD, tx_str hsc]; simp [bs_app, bs]))
        have HD := Lib.hid hD
        have hz := HF2.out.size
        have d3 : (⟨#[34]⟩ : ByteArray).size = 1 := rfl
        simp only [ByteArray.size_append, d3] at hz
        have y1 : ¬ (9223372036854775807 < 1 + val.size) := by omega
        have y2 : ¬ (9223372036854775807 < 1 + val.size + 1) := by omega
        clear hb8 hsc hD hz d3
        rcases Nat.lt_or_ge (i + 1) v.items.length with hl | hl
        · have j3 : (j : Int) < (m : Int) - 2 := HJM.out.1 hl
          have HF3 := Lib.hid ((HF2.out.app (s := ⟨#[44]⟩) (rest := 10 :: R) (by rw [HMORE.out hl])).app (s := ⟨#[10]⟩) (rest := R) rfl)
          have hz3 := HF3.out.size
          have d1 : (⟨#[44]⟩ : ByteArray).size = 1 := rfl
          have d2 : (⟨#[10]⟩ : ByteArray).size = 1 := rfl
          have d3 : (⟨#[34]⟩ : ByteArray).size = 1 := rfl
          simp only [ByteArray.size_append, d1, d2, d3] at hz3
          have HL := Lib.hid hl
          clear d1 d2 d3 hl
          have z1 : ¬ (9223372036854775807 < r1.size + (1 + val.size + 1)) := by omega
          have z2 : ¬ (9223372036854775807 < r1.size + (1 + val.size + 1) + 1) := by omega
          have z3 : ¬ (9223372036854775807 < r1.size + (1 + val.size + 1) + 1 + 1) := by omega
          clear hz3
          go_wp2
          go_roundg (m - (j + 2))
          case measure => omega
          case rel => exact ⟨rfl, i + 1, j + 2, _, rfl, by go_num, Lib.hid (by have := HJ.out; omega), by omega, Lib.hid (by rw [HR.out]; exact HF3.out)⟩
        · have j3 : ¬ (j : Int) < (m : Int) - 2 := by have := HJM.out.2 (by omega); omega
          have HF3 := Lib.hid (HF2.out.app (s := ⟨#[10]⟩) (rest := R) (by rw [HLAST.out (by omega)]; rfl))
          have hz3 := HF3.out.size
          have d2 : (⟨#[10]⟩ : ByteArray).size = 1 := rfl
          have d3 : (⟨#[34]⟩ : ByteArray).size = 1 := rfl
          simp only [ByteArray.size_append, d2, d3] at hz3
          have HL := Lib.hid hl
          clear d2 d3 hl
          have z1 : ¬ (9223372036854775807 < r1.size + (1 + val.size + 1)) := by omega
          have z2 : ¬ (9223372036854775807 < r1.size + (1 + val.size + 1) + 1) := by omega
          clear hz3
          go_wp2
          go_roundg (m - (j + 2))
          case measure => omega
          case rel => exact ⟨rfl, i + 1, j + 2, _, rfl, by go_num, Lib.hid (by have := HJ.out; omega), by omega, Lib.hid (by rw [HR.out]; exact HF3.out)⟩
      · have n0 : w.cell? ⟨n, 0, none⟩ = some (.int .u32 2) := (blk_cell hb8 0).trans rfl
        have hcall := IHS.out x n E' w S inn HN.out HPRX.out HPLX.out hk (by have := HS2.out; simp at this; omega)
        clear hb8
        go_wp2_with fail
        go_at_call 28
        refine hcall.mono ?_
        rintro e w1 ⟨s, rfl, hs, rfl⟩
        have HF2 := Lib.hid (HF1.out.app (s := s) (rest := sp ++ (10 :: R)) (by rw [hs]))
        clear hs
        rcases Nat.lt_or_ge (i + 1) v.items.length with hl | hl
        · have j3 : (j : Int) < (m : Int) - 2 := HJM.out.1 hl
          have HF3 := Lib.hid ((HF2.out.app (s := ⟨#[44]⟩) (rest := 10 :: R) (by rw [HMORE.out hl])).app (s := ⟨#[10]⟩) (rest := R) rfl)
          have hz3 := HF3.out.size
          have d1 : (⟨#[44]⟩ : ByteArray).size = 1 := rfl
          have d2 : (⟨#[10]⟩ : ByteArray).size = 1 := rfl
          have d3 : (⟨#[34]⟩ : ByteArray).size = 1 := rfl
          simp only [ByteArray.size_append, d1, d2, d3] at hz3
          have HL := Lib.hid hl
          clear d1 d2 d3 hl
          have z1 : ¬ (9223372036854775807 < r1.size + (s.size)) := by omega
          have z2 : ¬ (9223372036854775807 < r1.size + (s.size) + 1) := by omega
          have z3 : ¬ (9223372036854775807 < r1.size + (s.size) + 1 + 1) := by omega
          clear hz3
          go_wp2
          go_roundg (m - (j + 2))
          case measure => omega
          case rel => exact ⟨rfl, i + 1, j + 2, _, rfl, by go_num, Lib.hid (by have := HJ.out; omega), by omega, Lib.hid (by rw [HR.out]; exact HF3.out)⟩
        · have j3 : ¬ (j : Int) < (m : Int) - 2 := by have := HJM.out.2 (by omega); omega
          have HF3 := Lib.hid (HF2.out.app (s := ⟨#[10]⟩) (rest := R) (by rw [HLAST.out (by omega)]; rfl))
          have hz3 := HF3.out.size
          have d2 : (⟨#[10]⟩ : ByteArray).size = 1 := rfl
          have d3 : (⟨#[34]⟩ : ByteArray).size = 1 := rfl
          simp only [ByteArray.size_append, d2, d3] at hz3
          have HL := Lib.hid hl
          clear d2 d3 hl
          have z1 : ¬ (9223372036854775807 < r1.size + (s.size)) := by omega
          have z2 : ¬ (9223372036854775807 < r1.size + (s.size) + 1) := by omega
          clear hz3
          go_wp2
          go_roundg (m - (j + 2))
          case measure => omega
          case rel => exact ⟨rfl, i + 1, j + 2, _, rfl, by go_num, Lib.hid (by have := HJ.out; omega), by omega, Lib.hid (by rw [HR.out]; exact HF3.out)⟩
      · have n0 : w.cell? ⟨n, 0, none⟩ = some (.int .u32 4) := (blk_cell hb8 0).trans rfl
        have hcall := IHM.out x n E' w S inn HN.out HPRX.out HPLX.out hk (by have := HS2.out; simp at this; omega)
        clear hb8
        go_wp2_with fail
        go_at_call 27
        refine hcall.mono ?_
        rintro e w1 ⟨s, rfl, hs, rfl⟩
        have HF2 := Lib.hid (HF1.out.app (s := s) (rest := sp ++ (10 :: R)) (by rw [hs]))
        clear hs
        rcases Nat.lt_or_ge (i + 1) v.items.length with hl | hl
        · have j3 : (j : Int) < (m : Int) - 2 := HJM.out.1 hl
          have HF3 := Lib.hid ((HF2.out.app (s := ⟨#[44]⟩) (rest := 10 :: R) (by rw [HMORE.out hl])).app (s := ⟨#[10]⟩) (rest := R) rfl)
          have hz3 := HF3.out.size
          have d1 : (⟨#[44]⟩ : ByteArray).size = 1 := rfl
          have d2 : (⟨#[10]⟩ : ByteArray).size = 1 := rfl
          have d3 : (⟨#[34]⟩ : ByteArray).size = 1 := rfl
          simp only [ByteArray.size_append, d1, d2, d3] at hz3
          have HL := Lib.hid hl
          clear d1 d2 d3 hl
          have z1 : ¬ (9223372036854775807 < r1.size + (s.size)) := by omega
          have z2 : ¬ (9223372036854775807 < r1.size + (s.size) + 1) := by omega
          have z3 : ¬ (9223372036854775807 < r1.size + (s.size) + 1 + 1) := by omega
          clear hz3
          go_wp2
          go_roundg (m - (j + 2))
          case measure => omega
          case rel => exact ⟨rfl, i + 1, j + 2, _, rfl, by go_num, Lib.hid (by have := HJ.out; omega), by omega, Lib.hid (by rw [HR.out]; exact HF3.out)⟩
        · have j3 : ¬ (j : Int) < (m : Int) - 2 := by have := HJM.out.2 (by omega); omega
          have HF3 := Lib.hid (HF2.out.app (s := ⟨#[10]⟩) (rest := R) (by rw [HLAST.out (by omega)]; rfl))
          have hz3 := HF3.out.size
          have d2 : (⟨#[10]⟩ : ByteArray).size = 1 := rfl
          have d3 : (⟨#[34]⟩ : ByteArray).size = 1 := rfl
          simp only [ByteArray.size_append, d2, d3] at hz3
          have HL := Lib.hid hl
          clear d2 d3 hl
          have z1 : ¬ (9223372036854775807 < r1.size + (s.size)) := by omega
          have z2 : ¬ (9223372036854775807 < r1.size + (s.size) + 1) := by omega
          clear hz3
          go_wp2
          go_roundg (m - (j + 2))
          case measure => omega
          case rel => exact ⟨rfl, i + 1, j + 2, _, rfl, by go_num, Lib.hid (by have := HJ.out; omega), by omega, Lib.hid (by rw [HR.out]; exact HF3.out)⟩
    · have hF := HF.out
      rw [mapL_end _ _ (by omega)] at hF
      have HF2 := Lib.hid ((show Fits r (bs ind ++ [125]) whole from hF).app (s := ind ++ ⟨#[125]⟩) (rest := []) (by simp [bs_app, bs]))
      have hz := HF2.out.size
      have d3 : (⟨#[125]⟩ : ByteArray).size = 1 := rfl
      simp only [ByteArray.size_append, d3] at hz
      have y1 : ¬ (9223372036854775807 < ind.size + 1) := by omega
      have y2 : ¬ (9223372036854775807 < r.size + (ind.size + 1)) := by omega
      clear hF hz d3
      have j4 : j = m := by have := HJ.out; have := HM.out; omega
      subst j4
      go_wp2
      go_ret
      exact ⟨_, rfl, by have := HF2.out; simpa [Fits] using this, rfl⟩
end Go.Proofs.YtkafelcnpnlbfaaDoor
