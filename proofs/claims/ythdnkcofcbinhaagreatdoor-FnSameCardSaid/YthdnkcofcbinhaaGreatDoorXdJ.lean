/- describeSchema: sections. -/
import Derived.Test.YthdnkcofcbinhaaGreatDoorDhJ
set_option linter.unusedVariables false
set_option linter.unusedSimpArgs false
namespace Go.Proofs.YthdnkcofcbinhaaGreatDoor
open Go.RowKit

set_option maxRecDepth 1000000 in
set_option maxHeartbeats 8000000 in
theorem sec_Properties (S : Nat → Prop) (w0 : World) (D : Nat) (Ok : Dat → Prop) (sch o : Option Dat) (b : Nat) (ind r : ByteArray) (rest whole : List UInt8) (u : Nat → Value) (w : World) (K : Act → World → Prop) (Q' : Exit → Act → World → Prop) (f : Value)
    (hb : Below w0.heap.size w0 w) (hf0 : w0.cell? ⟨b, 23, none⟩ = some f) (ho : FieldO S w0 (Sch S w0 D) 9 o f)
    (hI : IHd S w0 D Ok) (hok : ∀ x, o = some x → ∀ y ∈ x.items, Ok y) (h60 : ∀ x, o = some x → x.items.length ≤ 60) (hF : Fits r (secO (descr D) (bs ind) sch (kProperties, 9, [112, 114, 111, 112, 101, 114, 116, 105, 101, 115]) o ++ rest) whole) (hW : whole.length ≤ 9223372036854775807) (hK : DK b ind rest whole w K) :
    (dSec 23).wp Tryz.prog (Exit.then K Q') (dlit b ind r u) w := by
  have HK := Lib.hid hK
  have hf := cell_up hb _ _ hf0
  clear hK hf0
  cases o with
  | none =>
    have e : f = .pointer none := ho
    subst e
    have HF := Lib.hid (show Fits r rest whole from hF)
    clear hF ho
    dsimp only [dlit]
    conv => arg 2; whnf
    go_wp2
    exact HK.out.at (u := u) (lo := 540) (hi := 582) HF.out (Below.refl _ _) (by unfold DFrame; kernel_rfl)
  | some x =>
    obtain ⟨bx, sv, rfl, -, hx0, A, c, rfl, hnc, hcm, hel⟩ := (show SlicePtr S w0 1 x.items.length (NamedAt S w0 (Sch S w0 D) x) f from ho)
    have hx := cell_up hb _ _ hx0
    have HEL := Lib.hid hel
    have h60 := h60 x rfl
    have hok := hok x rfl
    clear hel hx0
    have hF1 : Fits (r ++ (ind ++ ⟨#[112, 114, 111, 112, 101, 114, 116, 105, 101, 115, 58, 10]⟩)) (namedT (descr D) (bs ind) (x.keys.drop 0) (x.items.drop 0) ++ rest) whole := hF.app (by simp [secO, secT, bs_app, bs])
    have hs := hF1.size
    simp only [ByteArray.size_append] at hs
    have e0 : (⟨#[112, 114, 111, 112, 101, 114, 116, 105, 101, 115, 58, 10]⟩ : ByteArray).size = 12 := rfl
    rw [e0] at hs
    clear e0
    have c0 : ¬ (9223372036854775807 < ind.size + 12) := by omega
    have cz : ¬ (9223372036854775807 < r.size + (ind.size + 12)) := by omega
    have HF := Lib.hid hF1
    clear hF hF1 hs ho
    dsimp only [dlit]
    conv => arg 2; whnf
    go_wp2
    go_loopg [5, 556] x.items.length (fun gk v5 vi wr => ∃ (i : Nat) (r : ByteArray), v5 = .string r ∧ vi = .int .i64 i ∧ i + gk = x.items.length ∧ Hid (Fits r (namedT (descr D) (bs ind) (x.keys.drop i) (x.items.drop i) ++ rest) whole) ∧ Hid (Below w.heap.size w wr))
    case atStart => exact ⟨0, _, rfl, rfl, by omega, HF, Lib.hid (Below.refl _ _)⟩
    case round =>
      clear HF
      obtain ⟨i, r1, rfl, rfl, hi, HFr, HBr⟩ := hrel
      by_cases hlt : i < x.items.length
      · obtain ⟨g, us, rfl, -, -, hcell, hli, hki, bp, kk, rfl, -, hh, hr⟩ := HEL.out i hlt
        have hup := up_trans hb HBr.out
        have hc := cell_up hup _ _ (hcell 0 _ rfl)
        rw [Nat.mul_one, Nat.add_zero] at hc
        have p0 : wr.cell? ⟨bp, 0, none⟩ = some (.string x.keys[i]) := (blk_cell (blk_up hh hup) 0).trans rfl
        have p1 : wr.cell? ⟨bp, 1, none⟩ = some (.pointer (some ⟨kk, 0, none⟩)) := (blk_cell (blk_up hh hup) 1).trans rfl
        have hF0 := HFr.out
        rw [namedT_at hki hlt] at hF0
        have hoy := hok x.items[i] (List.getElem_mem _)
        obtain ⟨key, hkey⟩ : ∃ key, x.keys[i] = key := ⟨_, rfl⟩
        obtain ⟨y, hy⟩ : ∃ y, x.items[i] = y := ⟨_, rfl⟩
        rw [hkey] at p0 hF0
        rw [hy] at hF0 hr hoy
        have hF2 : Fits (r1 ++ (ind ++ ⟨#[32, 32]⟩ ++ key ++ ⟨#[58, 10]⟩)) (descr D (bs (ind ++ ⟨#[32, 32]⟩ ++ ⟨#[32, 32]⟩)) y ++ (namedT (descr D) (bs ind) (x.keys.drop (i + 1)) (x.items.drop (i + 1)) ++ rest)) whole := hF0.app (by simp [bs_app, bs])
        have hL := hF2.le hW
        have HC := Lib.hid (hI y kk (ind ++ ⟨#[32, 32]⟩ ++ ⟨#[32, 32]⟩) wr hup hr hoy hL)
        have hs := hF2.size
        simp only [ByteArray.size_append] at hs
        have e0 : (⟨#[32, 32]⟩ : ByteArray).size = 2 := rfl
        have e1 : (⟨#[58, 10]⟩ : ByteArray).size = 2 := rfl
        rw [e0, e1] at hs
        clear e0 e1
        have c0 : ¬ (9223372036854775807 < ind.size + 2) := by omega
        have c1 : ¬ (9223372036854775807 < ind.size + 2 + key.size) := by omega
        have c2 : ¬ (9223372036854775807 < ind.size + 2 + key.size + 2) := by omega
        have cz : ¬ (9223372036854775807 < r1.size + (ind.size + 2 + key.size + 2)) := by omega
        have d2 : ¬ (9223372036854775807 < ind.size + 2 + 2) := by omega
        have HF2 := Lib.hid hF2
        have j1 : (i : Int) < (x.items.length : Int) := by omega
        clear hF0 hF2 hs hr hoy hL hkey hy hh hcell
        go_wp2_with fail
        go_at_call 51
        refine HC.out.mono ?_
        rintro e w1 ⟨s, rfl, hs1, hb1⟩
        have HF := Lib.hid (HF2.out.text hs1)
        have hs2 := HF.out.size
        simp only [ByteArray.size_append] at hs2
        have e0 : (⟨#[32, 32]⟩ : ByteArray).size = 2 := rfl
        have e1 : (⟨#[58, 10]⟩ : ByteArray).size = 2 := rfl
        rw [e0, e1] at hs2
        clear e0 e1
        have d3 : ¬ (9223372036854775807 < r1.size + (ind.size + 2 + key.size + 2) + s.size) := by omega
        have HB1 := Lib.hid (up_trans HBr.out hb1)
        clear hb1 hs1 hs2 hc p0 p1
        go_wp2
        go_roundg (x.items.length - (i + 1))
        case measure => omega
        case rel => exact ⟨i + 1, _, rfl, by go_num, by omega, HF, HB1⟩
      · have HF := Lib.hid (show Fits r1 rest whole by
          have h := HFr.out
          rwa [namedT_end (by omega), List.nil_append] at h)
        go_wp2
        exact HK.out.at (u := u) (lo := 540) (hi := 582) HF.out (HBr.out) (by unfold DFrame; kernel_rfl)

set_option maxRecDepth 1000000 in
set_option maxHeartbeats 8000000 in
theorem sec_PatternProperties (S : Nat → Prop) (w0 : World) (D : Nat) (Ok : Dat → Prop) (sch o : Option Dat) (b : Nat) (ind r : ByteArray) (rest whole : List UInt8) (u : Nat → Value) (w : World) (K : Act → World → Prop) (Q' : Exit → Act → World → Prop) (f : Value)
    (hb : Below w0.heap.size w0 w) (hf0 : w0.cell? ⟨b, 24, none⟩ = some f) (ho : FieldO S w0 (Sch S w0 D) 9 o f)
    (hI : IHd S w0 D Ok) (hok : ∀ x, o = some x → ∀ y ∈ x.items, Ok y) (h60 : ∀ x, o = some x → x.items.length ≤ 60) (hF : Fits r (secO (descr D) (bs ind) sch (kPatternProperties, 9, [112, 97, 116, 116, 101, 114, 110, 80, 114, 111, 112, 101, 114, 116, 105, 101, 115]) o ++ rest) whole) (hW : whole.length ≤ 9223372036854775807) (hK : DK b ind rest whole w K) :
    (dSec 24).wp Tryz.prog (Exit.then K Q') (dlit b ind r u) w := by
  have HK := Lib.hid hK
  have hf := cell_up hb _ _ hf0
  clear hK hf0
  cases o with
  | none =>
    have e : f = .pointer none := ho
    subst e
    have HF := Lib.hid (show Fits r rest whole from hF)
    clear hF ho
    dsimp only [dlit]
    conv => arg 2; whnf
    go_wp2
    exact HK.out.at (u := u) (lo := 583) (hi := 625) HF.out (Below.refl _ _) (by unfold DFrame; kernel_rfl)
  | some x =>
    obtain ⟨bx, sv, rfl, -, hx0, A, c, rfl, hnc, hcm, hel⟩ := (show SlicePtr S w0 1 x.items.length (NamedAt S w0 (Sch S w0 D) x) f from ho)
    have hx := cell_up hb _ _ hx0
    have HEL := Lib.hid hel
    have h60 := h60 x rfl
    have hok := hok x rfl
    clear hel hx0
    have hF1 : Fits (r ++ (ind ++ ⟨#[112, 97, 116, 116, 101, 114, 110, 80, 114, 111, 112, 101, 114, 116, 105, 101, 115, 58, 10]⟩)) (namedT (descr D) (bs ind) (x.keys.drop 0) (x.items.drop 0) ++ rest) whole := hF.app (by simp [secO, secT, bs_app, bs])
    have hs := hF1.size
    simp only [ByteArray.size_append] at hs
    have e0 : (⟨#[112, 97, 116, 116, 101, 114, 110, 80, 114, 111, 112, 101, 114, 116, 105, 101, 115, 58, 10]⟩ : ByteArray).size = 19 := rfl
    rw [e0] at hs
    clear e0
    have c0 : ¬ (9223372036854775807 < ind.size + 19) := by omega
    have cz : ¬ (9223372036854775807 < r.size + (ind.size + 19)) := by omega
    have HF := Lib.hid hF1
    clear hF hF1 hs ho
    dsimp only [dlit]
    conv => arg 2; whnf
    go_wp2
    go_loopg [5, 599] x.items.length (fun gk v5 vi wr => ∃ (i : Nat) (r : ByteArray), v5 = .string r ∧ vi = .int .i64 i ∧ i + gk = x.items.length ∧ Hid (Fits r (namedT (descr D) (bs ind) (x.keys.drop i) (x.items.drop i) ++ rest) whole) ∧ Hid (Below w.heap.size w wr))
    case atStart => exact ⟨0, _, rfl, rfl, by omega, HF, Lib.hid (Below.refl _ _)⟩
    case round =>
      clear HF
      obtain ⟨i, r1, rfl, rfl, hi, HFr, HBr⟩ := hrel
      by_cases hlt : i < x.items.length
      · obtain ⟨g, us, rfl, -, -, hcell, hli, hki, bp, kk, rfl, -, hh, hr⟩ := HEL.out i hlt
        have hup := up_trans hb HBr.out
        have hc := cell_up hup _ _ (hcell 0 _ rfl)
        rw [Nat.mul_one, Nat.add_zero] at hc
        have p0 : wr.cell? ⟨bp, 0, none⟩ = some (.string x.keys[i]) := (blk_cell (blk_up hh hup) 0).trans rfl
        have p1 : wr.cell? ⟨bp, 1, none⟩ = some (.pointer (some ⟨kk, 0, none⟩)) := (blk_cell (blk_up hh hup) 1).trans rfl
        have hF0 := HFr.out
        rw [namedT_at hki hlt] at hF0
        have hoy := hok x.items[i] (List.getElem_mem _)
        obtain ⟨key, hkey⟩ : ∃ key, x.keys[i] = key := ⟨_, rfl⟩
        obtain ⟨y, hy⟩ : ∃ y, x.items[i] = y := ⟨_, rfl⟩
        rw [hkey] at p0 hF0
        rw [hy] at hF0 hr hoy
        have hF2 : Fits (r1 ++ (ind ++ ⟨#[32, 32]⟩ ++ key ++ ⟨#[58, 10]⟩)) (descr D (bs (ind ++ ⟨#[32, 32]⟩ ++ ⟨#[32, 32]⟩)) y ++ (namedT (descr D) (bs ind) (x.keys.drop (i + 1)) (x.items.drop (i + 1)) ++ rest)) whole := hF0.app (by simp [bs_app, bs])
        have hL := hF2.le hW
        have HC := Lib.hid (hI y kk (ind ++ ⟨#[32, 32]⟩ ++ ⟨#[32, 32]⟩) wr hup hr hoy hL)
        have hs := hF2.size
        simp only [ByteArray.size_append] at hs
        have e0 : (⟨#[32, 32]⟩ : ByteArray).size = 2 := rfl
        have e1 : (⟨#[58, 10]⟩ : ByteArray).size = 2 := rfl
        rw [e0, e1] at hs
        clear e0 e1
        have c0 : ¬ (9223372036854775807 < ind.size + 2) := by omega
        have c1 : ¬ (9223372036854775807 < ind.size + 2 + key.size) := by omega
        have c2 : ¬ (9223372036854775807 < ind.size + 2 + key.size + 2) := by omega
        have cz : ¬ (9223372036854775807 < r1.size + (ind.size + 2 + key.size + 2)) := by omega
        have d2 : ¬ (9223372036854775807 < ind.size + 2 + 2) := by omega
        have HF2 := Lib.hid hF2
        have j1 : (i : Int) < (x.items.length : Int) := by omega
        clear hF0 hF2 hs hr hoy hL hkey hy hh hcell
        go_wp2_with fail
        go_at_call 51
        refine HC.out.mono ?_
        rintro e w1 ⟨s, rfl, hs1, hb1⟩
        have HF := Lib.hid (HF2.out.text hs1)
        have hs2 := HF.out.size
        simp only [ByteArray.size_append] at hs2
        have e0 : (⟨#[32, 32]⟩ : ByteArray).size = 2 := rfl
        have e1 : (⟨#[58, 10]⟩ : ByteArray).size = 2 := rfl
        rw [e0, e1] at hs2
        clear e0 e1
        have d3 : ¬ (9223372036854775807 < r1.size + (ind.size + 2 + key.size + 2) + s.size) := by omega
        have HB1 := Lib.hid (up_trans HBr.out hb1)
        clear hb1 hs1 hs2 hc p0 p1
        go_wp2
        go_roundg (x.items.length - (i + 1))
        case measure => omega
        case rel => exact ⟨i + 1, _, rfl, by go_num, by omega, HF, HB1⟩
      · have HF := Lib.hid (show Fits r1 rest whole by
          have h := HFr.out
          rwa [namedT_end (by omega), List.nil_append] at h)
        go_wp2
        exact HK.out.at (u := u) (lo := 583) (hi := 625) HF.out (HBr.out) (by unfold DFrame; kernel_rfl)

set_option maxRecDepth 1000000 in
set_option maxHeartbeats 8000000 in
theorem sec_Definitions (S : Nat → Prop) (w0 : World) (D : Nat) (Ok : Dat → Prop) (sch o : Option Dat) (b : Nat) (ind r : ByteArray) (rest whole : List UInt8) (u : Nat → Value) (w : World) (K : Act → World → Prop) (Q' : Exit → Act → World → Prop) (f : Value)
    (hb : Below w0.heap.size w0 w) (hf0 : w0.cell? ⟨b, 32, none⟩ = some f) (ho : FieldO S w0 (Sch S w0 D) 9 o f)
    (hI : IHd S w0 D Ok) (hok : ∀ x, o = some x → ∀ y ∈ x.items, Ok y) (h60 : ∀ x, o = some x → x.items.length ≤ 60) (hF : Fits r (secO (descr D) (bs ind) sch (kDefinitions, 9, [100, 101, 102, 105, 110, 105, 116, 105, 111, 110, 115]) o ++ rest) whole) (hW : whole.length ≤ 9223372036854775807) (hK : DK b ind rest whole w K) :
    (dSec 32).wp Tryz.prog (Exit.then K Q') (dlit b ind r u) w := by
  have HK := Lib.hid hK
  have hf := cell_up hb _ _ hf0
  clear hK hf0
  cases o with
  | none =>
    have e : f = .pointer none := ho
    subst e
    have HF := Lib.hid (show Fits r rest whole from hF)
    clear hF ho
    dsimp only [dlit]
    conv => arg 2; whnf
    go_wp2
    exact HK.out.at (u := u) (lo := 877) (hi := 919) HF.out (Below.refl _ _) (by unfold DFrame; kernel_rfl)
  | some x =>
    obtain ⟨bx, sv, rfl, -, hx0, A, c, rfl, hnc, hcm, hel⟩ := (show SlicePtr S w0 1 x.items.length (NamedAt S w0 (Sch S w0 D) x) f from ho)
    have hx := cell_up hb _ _ hx0
    have HEL := Lib.hid hel
    have h60 := h60 x rfl
    have hok := hok x rfl
    clear hel hx0
    have hF1 : Fits (r ++ (ind ++ ⟨#[100, 101, 102, 105, 110, 105, 116, 105, 111, 110, 115, 58, 10]⟩)) (namedT (descr D) (bs ind) (x.keys.drop 0) (x.items.drop 0) ++ rest) whole := hF.app (by simp [secO, secT, bs_app, bs])
    have hs := hF1.size
    simp only [ByteArray.size_append] at hs
    have e0 : (⟨#[100, 101, 102, 105, 110, 105, 116, 105, 111, 110, 115, 58, 10]⟩ : ByteArray).size = 13 := rfl
    rw [e0] at hs
    clear e0
    have c0 : ¬ (9223372036854775807 < ind.size + 13) := by omega
    have cz : ¬ (9223372036854775807 < r.size + (ind.size + 13)) := by omega
    have HF := Lib.hid hF1
    clear hF hF1 hs ho
    dsimp only [dlit]
    conv => arg 2; whnf
    go_wp2
    go_loopg [5, 893] x.items.length (fun gk v5 vi wr => ∃ (i : Nat) (r : ByteArray), v5 = .string r ∧ vi = .int .i64 i ∧ i + gk = x.items.length ∧ Hid (Fits r (namedT (descr D) (bs ind) (x.keys.drop i) (x.items.drop i) ++ rest) whole) ∧ Hid (Below w.heap.size w wr))
    case atStart => exact ⟨0, _, rfl, rfl, by omega, HF, Lib.hid (Below.refl _ _)⟩
    case round =>
      clear HF
      obtain ⟨i, r1, rfl, rfl, hi, HFr, HBr⟩ := hrel
      by_cases hlt : i < x.items.length
      · obtain ⟨g, us, rfl, -, -, hcell, hli, hki, bp, kk, rfl, -, hh, hr⟩ := HEL.out i hlt
        have hup := up_trans hb HBr.out
        have hc := cell_up hup _ _ (hcell 0 _ rfl)
        rw [Nat.mul_one, Nat.add_zero] at hc
        have p0 : wr.cell? ⟨bp, 0, none⟩ = some (.string x.keys[i]) := (blk_cell (blk_up hh hup) 0).trans rfl
        have p1 : wr.cell? ⟨bp, 1, none⟩ = some (.pointer (some ⟨kk, 0, none⟩)) := (blk_cell (blk_up hh hup) 1).trans rfl
        have hF0 := HFr.out
        rw [namedT_at hki hlt] at hF0
        have hoy := hok x.items[i] (List.getElem_mem _)
        obtain ⟨key, hkey⟩ : ∃ key, x.keys[i] = key := ⟨_, rfl⟩
        obtain ⟨y, hy⟩ : ∃ y, x.items[i] = y := ⟨_, rfl⟩
        rw [hkey] at p0 hF0
        rw [hy] at hF0 hr hoy
        have hF2 : Fits (r1 ++ (ind ++ ⟨#[32, 32]⟩ ++ key ++ ⟨#[58, 10]⟩)) (descr D (bs (ind ++ ⟨#[32, 32]⟩ ++ ⟨#[32, 32]⟩)) y ++ (namedT (descr D) (bs ind) (x.keys.drop (i + 1)) (x.items.drop (i + 1)) ++ rest)) whole := hF0.app (by simp [bs_app, bs])
        have hL := hF2.le hW
        have HC := Lib.hid (hI y kk (ind ++ ⟨#[32, 32]⟩ ++ ⟨#[32, 32]⟩) wr hup hr hoy hL)
        have hs := hF2.size
        simp only [ByteArray.size_append] at hs
        have e0 : (⟨#[32, 32]⟩ : ByteArray).size = 2 := rfl
        have e1 : (⟨#[58, 10]⟩ : ByteArray).size = 2 := rfl
        rw [e0, e1] at hs
        clear e0 e1
        have c0 : ¬ (9223372036854775807 < ind.size + 2) := by omega
        have c1 : ¬ (9223372036854775807 < ind.size + 2 + key.size) := by omega
        have c2 : ¬ (9223372036854775807 < ind.size + 2 + key.size + 2) := by omega
        have cz : ¬ (9223372036854775807 < r1.size + (ind.size + 2 + key.size + 2)) := by omega
        have d2 : ¬ (9223372036854775807 < ind.size + 2 + 2) := by omega
        have HF2 := Lib.hid hF2
        have j1 : (i : Int) < (x.items.length : Int) := by omega
        clear hF0 hF2 hs hr hoy hL hkey hy hh hcell
        go_wp2_with fail
        go_at_call 51
        refine HC.out.mono ?_
        rintro e w1 ⟨s, rfl, hs1, hb1⟩
        have HF := Lib.hid (HF2.out.text hs1)
        have hs2 := HF.out.size
        simp only [ByteArray.size_append] at hs2
        have e0 : (⟨#[32, 32]⟩ : ByteArray).size = 2 := rfl
        have e1 : (⟨#[58, 10]⟩ : ByteArray).size = 2 := rfl
        rw [e0, e1] at hs2
        clear e0 e1
        have d3 : ¬ (9223372036854775807 < r1.size + (ind.size + 2 + key.size + 2) + s.size) := by omega
        have HB1 := Lib.hid (up_trans HBr.out hb1)
        clear hb1 hs1 hs2 hc p0 p1
        go_wp2
        go_roundg (x.items.length - (i + 1))
        case measure => omega
        case rel => exact ⟨i + 1, _, rfl, by go_num, by omega, HF, HB1⟩
      · have HF := Lib.hid (show Fits r1 rest whole by
          have h := HFr.out
          rwa [namedT_end (by omega), List.nil_append] at h)
        go_wp2
        exact HK.out.at (u := u) (lo := 877) (hi := 919) HF.out (HBr.out) (by unfold DFrame; kernel_rfl)

end Go.Proofs.YthdnkcofcbinhaaGreatDoor
