/- describeSchema: sections. -/
import Derived.Test.YthdnkcofcbinhaaGreatDoorDhJ
set_option linter.unusedVariables false
set_option linter.unusedSimpArgs false
namespace Go.Proofs.YthdnkcofcbinhaaGreatDoor
open Go.RowKit

set_option maxRecDepth 1000000 in
set_option maxHeartbeats 8000000 in
theorem sec_AllOf (S : Nat → Prop) (w0 : World) (D : Nat) (Ok : Dat → Prop) (sch o : Option Dat) (b : Nat) (ind r : ByteArray) (rest whole : List UInt8) (u : Nat → Value) (w : World) (K : Act → World → Prop) (Q' : Exit → Act → World → Prop) (f : Value)
    (hb : Below w0.heap.size w0 w) (hf0 : w0.cell? ⟨b, 28, none⟩ = some f) (ho : FieldO S w0 (Sch S w0 D) 13 o f)
    (hI : IHd S w0 D Ok) (hok : ∀ x, o = some x → ∀ y ∈ x.items, Ok y) (h60 : ∀ x, o = some x → x.items.length ≤ 60) (hF : Fits r (secO (descr D) (bs ind) sch (kAllOf, 13, [97, 108, 108, 79, 102]) o ++ rest) whole) (hW : whole.length ≤ 9223372036854775807) (hK : DK b ind rest whole w K) :
    (dSec 28).wp Tryz.prog (Exit.then K Q') (dlit b ind r u) w := by
  have HK := Lib.hid hK
  have hf := cell_up hb _ _ hf0
  clear hK hf0
  cases o with
  | none =>
    have e : f = .pointer none := ho
    subst e
    have HF := Lib.hid (show Fits r rest whole from hF)
    clear hF ho
    dsimp only [dlit]
    conv => arg 2; whnf
    go_wp2
    exact HK.out.at (u := u) (lo := 766) (hi := 796) HF.out (Below.refl _ _) (by unfold DFrame; kernel_rfl)
  | some x =>
    obtain ⟨bx, sv, rfl, -, hx0, A, c, rfl, hnc, hcm, hel⟩ := (show SlicePtr S w0 1 x.items.length (SchemaAt (Sch S w0 D) x) f from ho)
    have hx := cell_up hb _ _ hx0
    have HEL := Lib.hid hel
    have h60 := h60 x rfl
    have hok := hok x rfl
    clear hel hx0
    have hF1 : Fits (r ++ (ind ++ ⟨#[97, 108, 108, 79, 102, 58, 10]⟩)) (listT (descr D) (bs ind) (x.items.drop 0) ++ rest) whole := hF.app (by simp [secO, secT, bs_app, bs])
    have hs := hF1.size
    simp only [ByteArray.size_append] at hs
    have e0 : (⟨#[97, 108, 108, 79, 102, 58, 10]⟩ : ByteArray).size = 7 := rfl
    rw [e0] at hs
    clear e0
    have c0 : ¬ (9223372036854775807 < ind.size + 7) := by omega
    have cz : ¬ (9223372036854775807 < r.size + (ind.size + 7)) := by omega
    have HF := Lib.hid hF1
    clear hF hF1 hs ho
    dsimp only [dlit]
    conv => arg 2; whnf
    go_wp2
    go_loopg [5, 782] x.items.length (fun gk v5 vi wr => ∃ (i : Nat) (r : ByteArray), v5 = .string r ∧ vi = .int .i64 i ∧ i + gk = x.items.length ∧ Hid (Fits r (listT (descr D) (bs ind) (x.items.drop i) ++ rest) whole) ∧ Hid (Below w.heap.size w wr))
    case atStart => exact ⟨0, _, rfl, rfl, by omega, HF, Lib.hid (Below.refl _ _)⟩
    case round =>
      clear HF
      obtain ⟨i, r1, rfl, rfl, hi, HFr, HBr⟩ := hrel
      by_cases hlt : i < x.items.length
      · obtain ⟨g, us, rfl, -, -, hcell, hli, kk, rfl, hr⟩ := HEL.out i hlt
        have hup := up_trans hb HBr.out
        have hc := cell_up hup _ _ (hcell 0 _ rfl)
        rw [Nat.mul_one, Nat.add_zero] at hc
        have hF0 := HFr.out
        rw [listT_at hlt] at hF0
        have hoy := hok x.items[i] (List.getElem_mem _)
        obtain ⟨y, hy⟩ : ∃ y, x.items[i] = y := ⟨_, rfl⟩
        rw [hy] at hF0 hr hoy
        have hF2 : Fits r1 (descr D (bs (ind ++ ⟨#[32, 32]⟩)) y ++ (bs ind ++ ([45, 10] ++ (listT (descr D) (bs ind) (x.items.drop (i + 1)) ++ rest)))) whole := by
          rw [bs_app]
          simpa [bs] using hF0
        have hL := hF2.le hW
        have HC := Lib.hid (hI y kk (ind ++ ⟨#[32, 32]⟩) wr hup hr hoy hL)
        have hs := hF2.size
        simp only [List.length_append, bs_len] at hs
        have d2 : ¬ (9223372036854775807 < ind.size + 2) := by simp at hs; omega
        have HF2 := Lib.hid hF2
        have j1 : (i : Int) < (x.items.length : Int) := by omega
        clear hF0 hF2 hs hr hoy hL hy hcell
        go_wp2_with fail
        go_at_call 51
        refine HC.out.mono ?_
        rintro e w1 ⟨s, rfl, hs1, hb1⟩
        have hF3 := HF2.out.text hs1
        have HF := Lib.hid (show Fits (r1 ++ s ++ (ind ++ ⟨#[45, 10]⟩)) (listT (descr D) (bs ind) (x.items.drop (i + 1)) ++ rest) whole from hF3.app (by simp [bs_app, bs]))
        have hs2 := HF.out.size
        simp only [ByteArray.size_append] at hs2
        have e0 : (⟨#[45, 10]⟩ : ByteArray).size = 2 := rfl
        rw [e0] at hs2
        clear e0
        have d3 : ¬ (9223372036854775807 < r1.size + s.size) := by omega
        have d4 : ¬ (9223372036854775807 < r1.size + s.size + (ind.size + 2)) := by omega
        have HB1 := Lib.hid (up_trans HBr.out hb1)
        clear hb1 hs1 hs2 hc hF3
        go_wp2
        go_roundg (x.items.length - (i + 1))
        case measure => omega
        case rel => exact ⟨i + 1, _, rfl, by go_num, by omega, HF, HB1⟩
      · have HF := Lib.hid (show Fits r1 rest whole by
          have h := HFr.out
          rwa [listT_end (by omega), List.nil_append] at h)
        go_wp2
        exact HK.out.at (u := u) (lo := 766) (hi := 796) HF.out (HBr.out) (by unfold DFrame; kernel_rfl)

set_option maxRecDepth 1000000 in
set_option maxHeartbeats 8000000 in
theorem sec_AnyOf (S : Nat → Prop) (w0 : World) (D : Nat) (Ok : Dat → Prop) (sch o : Option Dat) (b : Nat) (ind r : ByteArray) (rest whole : List UInt8) (u : Nat → Value) (w : World) (K : Act → World → Prop) (Q' : Exit → Act → World → Prop) (f : Value)
    (hb : Below w0.heap.size w0 w) (hf0 : w0.cell? ⟨b, 29, none⟩ = some f) (ho : FieldO S w0 (Sch S w0 D) 13 o f)
    (hI : IHd S w0 D Ok) (hok : ∀ x, o = some x → ∀ y ∈ x.items, Ok y) (h60 : ∀ x, o = some x → x.items.length ≤ 60) (hF : Fits r (secO (descr D) (bs ind) sch (kAnyOf, 13, [97, 110, 121, 79, 102]) o ++ rest) whole) (hW : whole.length ≤ 9223372036854775807) (hK : DK b ind rest whole w K) :
    (dSec 29).wp Tryz.prog (Exit.then K Q') (dlit b ind r u) w := by
  have HK := Lib.hid hK
  have hf := cell_up hb _ _ hf0
  clear hK hf0
  cases o with
  | none =>
    have e : f = .pointer none := ho
    subst e
    have HF := Lib.hid (show Fits r rest whole from hF)
    clear hF ho
    dsimp only [dlit]
    conv => arg 2; whnf
    go_wp2
    exact HK.out.at (u := u) (lo := 797) (hi := 827) HF.out (Below.refl _ _) (by unfold DFrame; kernel_rfl)
  | some x =>
    obtain ⟨bx, sv, rfl, -, hx0, A, c, rfl, hnc, hcm, hel⟩ := (show SlicePtr S w0 1 x.items.length (SchemaAt (Sch S w0 D) x) f from ho)
    have hx := cell_up hb _ _ hx0
    have HEL := Lib.hid hel
    have h60 := h60 x rfl
    have hok := hok x rfl
    clear hel hx0
    have hF1 : Fits (r ++ (ind ++ ⟨#[97, 110, 121, 79, 102, 58, 10]⟩)) (listT (descr D) (bs ind) (x.items.drop 0) ++ rest) whole := hF.app (by simp [secO, secT, bs_app, bs])
    have hs := hF1.size
    simp only [ByteArray.size_append] at hs
    have e0 : (⟨#[97, 110, 121, 79, 102, 58, 10]⟩ : ByteArray).size = 7 := rfl
    rw [e0] at hs
    clear e0
    have c0 : ¬ (9223372036854775807 < ind.size + 7) := by omega
    have cz : ¬ (9223372036854775807 < r.size + (ind.size + 7)) := by omega
    have HF := Lib.hid hF1
    clear hF hF1 hs ho
    dsimp only [dlit]
    conv => arg 2; whnf
    go_wp2
    go_loopg [5, 813] x.items.length (fun gk v5 vi wr => ∃ (i : Nat) (r : ByteArray), v5 = .string r ∧ vi = .int .i64 i ∧ i + gk = x.items.length ∧ Hid (Fits r (listT (descr D) (bs ind) (x.items.drop i) ++ rest) whole) ∧ Hid (Below w.heap.size w wr))
    case atStart => exact ⟨0, _, rfl, rfl, by omega, HF, Lib.hid (Below.refl _ _)⟩
    case round =>
      clear HF
      obtain ⟨i, r1, rfl, rfl, hi, HFr, HBr⟩ := hrel
      by_cases hlt : i < x.items.length
      · obtain ⟨g, us, rfl, -, -, hcell, hli, kk, rfl, hr⟩ := HEL.out i hlt
        have hup := up_trans hb HBr.out
        have hc := cell_up hup _ _ (hcell 0 _ rfl)
        rw [Nat.mul_one, Nat.add_zero] at hc
        have hF0 := HFr.out
        rw [listT_at hlt] at hF0
        have hoy := hok x.items[i] (List.getElem_mem _)
        obtain ⟨y, hy⟩ : ∃ y, x.items[i] = y := ⟨_, rfl⟩
        rw [hy] at hF0 hr hoy
        have hF2 : Fits r1 (descr D (bs (ind ++ ⟨#[32, 32]⟩)) y ++ (bs ind ++ ([45, 10] ++ (listT (descr D) (bs ind) (x.items.drop (i + 1)) ++ rest)))) whole := by
          rw [bs_app]
          simpa [bs] using hF0
        have hL := hF2.le hW
        have HC := Lib.hid (hI y kk (ind ++ ⟨#[32, 32]⟩) wr hup hr hoy hL)
        have hs := hF2.size
        simp only [List.length_append, bs_len] at hs
        have d2 : ¬ (9223372036854775807 < ind.size + 2) := by simp at hs; omega
        have HF2 := Lib.hid hF2
        have j1 : (i : Int) < (x.items.length : Int) := by omega
        clear hF0 hF2 hs hr hoy hL hy hcell
        go_wp2_with fail
        go_at_call 51
        refine HC.out.mono ?_
        rintro e w1 ⟨s, rfl, hs1, hb1⟩
        have hF3 := HF2.out.text hs1
        have HF := Lib.hid (show Fits (r1 ++ s ++ (ind ++ ⟨#[45, 10]⟩)) (listT (descr D) (bs ind) (x.items.drop (i + 1)) ++ rest) whole from hF3.app (by simp [bs_app, bs]))
        have hs2 := HF.out.size
        simp only [ByteArray.size_append] at hs2
        have e0 : (⟨#[45, 10]⟩ : ByteArray).size = 2 := rfl
        rw [e0] at hs2
        clear e0
        have d3 : ¬ (9223372036854775807 < r1.size + s.size) := by omega
        have d4 : ¬ (9223372036854775807 < r1.size + s.size + (ind.size + 2)) := by omega
        have HB1 := Lib.hid (up_trans HBr.out hb1)
        clear hb1 hs1 hs2 hc hF3
        go_wp2
        go_roundg (x.items.length - (i + 1))
        case measure => omega
        case rel => exact ⟨i + 1, _, rfl, by go_num, by omega, HF, HB1⟩
      · have HF := Lib.hid (show Fits r1 rest whole by
          have h := HFr.out
          rwa [listT_end (by omega), List.nil_append] at h)
        go_wp2
        exact HK.out.at (u := u) (lo := 797) (hi := 827) HF.out (HBr.out) (by unfold DFrame; kernel_rfl)

set_option maxRecDepth 1000000 in
set_option maxHeartbeats 8000000 in
theorem sec_OneOf (S : Nat → Prop) (w0 : World) (D : Nat) (Ok : Dat → Prop) (sch o : Option Dat) (b : Nat) (ind r : ByteArray) (rest whole : List UInt8) (u : Nat → Value) (w : World) (K : Act → World → Prop) (Q' : Exit → Act → World → Prop) (f : Value)
    (hb : Below w0.heap.size w0 w) (hf0 : w0.cell? ⟨b, 30, none⟩ = some f) (ho : FieldO S w0 (Sch S w0 D) 13 o f)
    (hI : IHd S w0 D Ok) (hok : ∀ x, o = some x → ∀ y ∈ x.items, Ok y) (h60 : ∀ x, o = some x → x.items.length ≤ 60) (hF : Fits r (secO (descr D) (bs ind) sch (kOneOf, 13, [111, 110, 101, 79, 102]) o ++ rest) whole) (hW : whole.length ≤ 9223372036854775807) (hK : DK b ind rest whole w K) :
    (dSec 30).wp Tryz.prog (Exit.then K Q') (dlit b ind r u) w := by
  have HK := Lib.hid hK
  have hf := cell_up hb _ _ hf0
  clear hK hf0
  cases o with
  | none =>
    have e : f = .pointer none := ho
    subst e
    have HF := Lib.hid (show Fits r rest whole from hF)
    clear hF ho
    dsimp only [dlit]
    conv => arg 2; whnf
    go_wp2
    exact HK.out.at (u := u) (lo := 828) (hi := 858) HF.out (Below.refl _ _) (by unfold DFrame; kernel_rfl)
  | some x =>
    obtain ⟨bx, sv, rfl, -, hx0, A, c, rfl, hnc, hcm, hel⟩ := (show SlicePtr S w0 1 x.items.length (SchemaAt (Sch S w0 D) x) f from ho)
    have hx := cell_up hb _ _ hx0
    have HEL := Lib.hid hel
    have h60 := h60 x rfl
    have hok := hok x rfl
    clear hel hx0
    have hF1 : Fits (r ++ (ind ++ ⟨#[111, 110, 101, 79, 102, 58, 10]⟩)) (listT (descr D) (bs ind) (x.items.drop 0) ++ rest) whole := hF.app (by simp [secO, secT, bs_app, bs])
    have hs := hF1.size
    simp only [ByteArray.size_append] at hs
    have e0 : (⟨#[111, 110, 101, 79, 102, 58, 10]⟩ : ByteArray).size = 7 := rfl
    rw [e0] at hs
    clear e0
    have c0 : ¬ (9223372036854775807 < ind.size + 7) := by omega
    have cz : ¬ (9223372036854775807 < r.size + (ind.size + 7)) := by omega
    have HF := Lib.hid hF1
    clear hF hF1 hs ho
    dsimp only [dlit]
    conv => arg 2; whnf
    go_wp2
    go_loopg [5, 844] x.items.length (fun gk v5 vi wr => ∃ (i : Nat) (r : ByteArray), v5 = .string r ∧ vi = .int .i64 i ∧ i + gk = x.items.length ∧ Hid (Fits r (listT (descr D) (bs ind) (x.items.drop i) ++ rest) whole) ∧ Hid (Below w.heap.size w wr))
    case atStart => exact ⟨0, _, rfl, rfl, by omega, HF, Lib.hid (Below.refl _ _)⟩
    case round =>
      clear HF
      obtain ⟨i, r1, rfl, rfl, hi, HFr, HBr⟩ := hrel
      by_cases hlt : i < x.items.length
      · obtain ⟨g, us, rfl, -, -, hcell, hli, kk, rfl, hr⟩ := HEL.out i hlt
        have hup := up_trans hb HBr.out
        have hc := cell_up hup _ _ (hcell 0 _ rfl)
        rw [Nat.mul_one, Nat.add_zero] at hc
        have hF0 := HFr.out
        rw [listT_at hlt] at hF0
        have hoy := hok x.items[i] (List.getElem_mem _)
        obtain ⟨y, hy⟩ : ∃ y, x.items[i] = y := ⟨_, rfl⟩
        rw [hy] at hF0 hr hoy
        have hF2 : Fits r1 (descr D (bs (ind ++ ⟨#[32, 32]⟩)) y ++ (bs ind ++ ([45, 10] ++ (listT (descr D) (bs ind) (x.items.drop (i + 1)) ++ rest)))) whole := by
          rw [bs_app]
          simpa [bs] using hF0
        have hL := hF2.le hW
        have HC := Lib.hid (hI y kk (ind ++ ⟨#[32, 32]⟩) wr hup hr hoy hL)
        have hs := hF2.size
        simp only [List.length_append, bs_len] at hs
        have d2 : ¬ (9223372036854775807 < ind.size + 2) := by simp at hs; omega
        have HF2 := Lib.hid hF2
        have j1 : (i : Int) < (x.items.length : Int) := by omega
        clear hF0 hF2 hs hr hoy hL hy hcell
        go_wp2_with fail
        go_at_call 51
        refine HC.out.mono ?_
        rintro e w1 ⟨s, rfl, hs1, hb1⟩
        have hF3 := HF2.out.text hs1
        have HF := Lib.hid (show Fits (r1 ++ s ++ (ind ++ ⟨#[45, 10]⟩)) (listT (descr D) (bs ind) (x.items.drop (i + 1)) ++ rest) whole from hF3.app (by simp [bs_app, bs]))
        have hs2 := HF.out.size
        simp only [ByteArray.size_append] at hs2
        have e0 : (⟨#[45, 10]⟩ : ByteArray).size = 2 := rfl
        rw [e0] at hs2
        clear e0
        have d3 : ¬ (9223372036854775807 < r1.size + s.size) := by omega
        have d4 : ¬ (9223372036854775807 < r1.size + s.size + (ind.size + 2)) := by omega
        have HB1 := Lib.hid (up_trans HBr.out hb1)
        clear hb1 hs1 hs2 hc hF3
        go_wp2
        go_roundg (x.items.length - (i + 1))
        case measure => omega
        case rel => exact ⟨i + 1, _, rfl, by go_num, by omega, HF, HB1⟩
      · have HF := Lib.hid (show Fits r1 rest whole by
          have h := HFr.out
          rwa [listT_end (by omega), List.nil_append] at h)
        go_wp2
        exact HK.out.at (u := u) (lo := 828) (hi := 858) HF.out (HBr.out) (by unfold DFrame; kernel_rfl)

end Go.Proofs.YthdnkcofcbinhaaGreatDoor

/- describeSchema: sections. -/
namespace Go.Proofs.YthdnkcofcbinhaaGreatDoor
open Go.RowKit

set_option maxRecDepth 1000000 in
set_option maxHeartbeats 8000000 in
theorem sec_Items (S : Nat → Prop) (w0 : World) (D : Nat) (Ok : Dat → Prop) (sch o : Option Dat) (b : Nat) (ind r : ByteArray) (rest whole : List UInt8) (u : Nat → Value) (w : World) (K : Act → World → Prop) (Q' : Exit → Act → World → Prop) (f : Value)
    (hb : Below w0.heap.size w0 w) (hf0 : w0.cell? ⟨b, 15, none⟩ = some f) (ho : FieldO S w0 (Sch S w0 D) 7 o f)
    (hT : Tab w0) (hI : IHd S w0 D Ok) (hok1 : ∀ x, o = some x → x.kind = 5 → Ok x) (hok2 : ∀ x, o = some x → x.kind = 4 → ∀ y ∈ x.items, Ok y) (h60 : ∀ x, o = some x → x.items.length ≤ 60) (hF : Fits r (secO (descr D) (bs ind) sch (kItems, 7, [105, 116, 101, 109, 115]) o ++ rest) whole) (hW : whole.length ≤ 9223372036854775807) (hK : DK b ind rest whole w K) :
    (dSec 15).wp Tryz.prog (Exit.then K Q') (dlit b ind r u) w := by
  have HK := Lib.hid hK
  have hf := cell_up hb _ _ hf0
  clear hK hf0
  cases o with
  | none =>
    have e : f = .pointer none := ho
    subst e
    have HF := Lib.hid (show Fits r rest whole from hF)
    clear hF ho
    dsimp only [dlit]
    conv => arg 2; whnf
    go_wp2
    exact HK.out.at (u := u) (lo := 330) (hi := 390) HF.out (Below.refl _ _) (by unfold DFrame; kernel_rfl)
  | some x =>
    obtain ⟨b2, rfl, -, hcase⟩ := (show ∃ b, f = .pointer (some ⟨b, 0, none⟩) ∧ S b ∧ ((x.kind = 4 ∧ ∃ g, w0.heap[b]? = some (.cells #[.pointer none, g] 103 (0, 0)) ∧ SlicePtr S w0 1 x.items.length (SchemaAt (Sch S w0 D) x) g) ∨
          (x.kind = 5 ∧ ∃ k, w0.heap[b]? = some (.cells #[.pointer (some ⟨k, 0, none⟩), .pointer none] 103 (0, 0)) ∧ Sch S w0 D x k)) from ho)
    clear ho
    rcases hcase with ⟨hk, gg, hh, bx, sv, rfl, -, hx0, A, c, rfl, hnc, hcm, hel⟩ | ⟨hk, kx, hh, hr⟩
    · have z0 : w.cell? ⟨b2, 0, none⟩ = some (.pointer none) := (blk_cell (blk_up hh hb) 0).trans rfl
      have z1 : w.cell? ⟨b2, 1, none⟩ = some (.pointer (some ⟨bx, 0, none⟩)) := (blk_cell (blk_up hh hb) 1).trans rfl
      have hx := cell_up hb _ _ hx0
      have HEL := Lib.hid hel
      have h60 := h60 x rfl
      have hok := hok2 x rfl hk
      have Z2 := Lib.hid (fun W (hW : Below w.heap.size w W) => cell_up hW _ _ z0)
      clear hel hx0 hh hok1
      have hF1 : Fits (r ++ (ind ++ ⟨#[105, 116, 101, 109, 115, 58, 10]⟩)) (itemsT (descr D) (bs ind) 0 (x.items.drop 0) ++ rest) whole := hF.app (by simp [secO, secT, bs_app, bs, hk])
      have hs := hF1.size
      simp only [ByteArray.size_append] at hs
      have e0 : (⟨#[105, 116, 101, 109, 115, 58, 10]⟩ : ByteArray).size = 7 := rfl
      rw [e0] at hs
      clear e0
      have c0 : ¬ (9223372036854775807 < ind.size + 7) := by omega
      have cz : ¬ (9223372036854775807 < r.size + (ind.size + 7)) := by omega
      have HF := Lib.hid hF1
      clear hF hF1 hs hk
      dsimp only [dlit]
      conv => arg 2; whnf
      go_wp2
      go_loopg [5, 355] x.items.length (fun gk v5 vi wr => ∃ (i : Nat) (r : ByteArray), v5 = .string r ∧ vi = .int .i64 i ∧ i + gk = x.items.length ∧ Hid (Fits r (itemsT (descr D) (bs ind) i (x.items.drop i) ++ rest) whole) ∧ Hid (Below w.heap.size w wr))
      case atStart => exact ⟨0, _, rfl, rfl, by omega, HF, Lib.hid (Below.refl _ _)⟩
      case round =>
        clear HF
        obtain ⟨i, r1, rfl, rfl, hi, HFr, HBr⟩ := hrel
        by_cases hlt : i < x.items.length
        · obtain ⟨g, us, rfl, -, -, hcell, hli, kk, rfl, hr⟩ := HEL.out i hlt
          have hup := up_trans hb HBr.out
          have hc := cell_up hup _ _ (hcell 0 _ rfl)
          rw [Nat.mul_one, Nat.add_zero] at hc
          have hF0 := HFr.out
          rw [itemsT_at hlt] at hF0
          have hoy := hok x.items[i] (List.getElem_mem _)
          have HIT := Lib.hid (Itoa_any i wr (by omega) (hT.up hup))
          obtain ⟨nt, hnt⟩ : ∃ nt, intText (i : Int) = nt := ⟨_, rfl⟩
          rw [hnt] at hF0 HIT
          obtain ⟨y, hy⟩ : ∃ y, x.items[i] = y := ⟨_, rfl⟩
          rw [hy] at hF0 hr hoy
          have hF2 : Fits (r1 ++ (ind ++ ⟨#[32, 32]⟩ ++ nt ++ ⟨#[58, 10]⟩)) (descr D (bs (ind ++ ⟨#[32, 32]⟩ ++ ⟨#[32, 32]⟩)) y ++ (itemsT (descr D) (bs ind) (i + 1) (x.items.drop (i + 1)) ++ rest)) whole := hF0.app (by simp [bs_app, bs])
          have hL := hF2.le hW
          have HC := Lib.hid (fun W (hW2 : Below wr.heap.size wr W) => hI y kk (ind ++ ⟨#[32, 32]⟩ ++ ⟨#[32, 32]⟩) W (up_trans hup hW2) hr hoy hL)
          have hs := hF2.size
          simp only [ByteArray.size_append] at hs
          have e0 : (⟨#[32, 32]⟩ : ByteArray).size = 2 := rfl
          have e1 : (⟨#[58, 10]⟩ : ByteArray).size = 2 := rfl
          rw [e0, e1] at hs
          clear e0 e1
          have c0 : ¬ (9223372036854775807 < ind.size + 2) := by omega
          have c1 : ¬ (9223372036854775807 < ind.size + 2 + nt.size) := by omega
          have c2 : ¬ (9223372036854775807 < ind.size + 2 + nt.size + 2) := by omega
          have cz : ¬ (9223372036854775807 < r1.size + (ind.size + 2 + nt.size + 2)) := by omega
          have d2 : ¬ (9223372036854775807 < ind.size + 2 + 2) := by omega
          have HF2 := Lib.hid hF2
          have j1 : (i : Int) < (x.items.length : Int) := by omega
          clear hF0 hF2 hs hr hoy hL hy hcell hnt
          go_wp2_with fail
          go_at_call 59
          refine HIT.out.mono ?_
          rintro e w1 ⟨rfl, hb1⟩
          have HB1 := Lib.hid hb1
          clear hb1
          go_wp2_with fail
          go_at_call 51
          refine (HC.out _ HB1.out).mono ?_
          rintro e w2 ⟨s, rfl, hs1, hb2⟩
          have HF := Lib.hid (HF2.out.text hs1)
          have hs2 := HF.out.size
          simp only [ByteArray.size_append] at hs2
          have e0 : (⟨#[32, 32]⟩ : ByteArray).size = 2 := rfl
          have e1 : (⟨#[58, 10]⟩ : ByteArray).size = 2 := rfl
          rw [e0, e1] at hs2
          clear e0 e1
          have d3 : ¬ (9223372036854775807 < r1.size + (ind.size + 2 + nt.size + 2) + s.size) := by omega
          have HB2 := Lib.hid (up_trans HBr.out (up_trans HB1.out hb2))
          clear hb2 hs1 hs2 hc
          go_wp2
          go_roundg (x.items.length - (i + 1))
          case measure => omega
          case rel => exact ⟨i + 1, _, rfl, by go_num, by omega, HF, HB2⟩
        · have HF := Lib.hid (show Fits r1 rest whole by
            have h := HFr.out
            rwa [itemsT_end (by omega), List.nil_append] at h)
          have z3 := Z2.out wr HBr.out
          go_wp2
          exact HK.out.at (u := u) (lo := 330) (hi := 390) HF.out (HBr.out) (by unfold DFrame; kernel_rfl)
    · have z0 : w.cell? ⟨b2, 0, none⟩ = some (.pointer (some ⟨kx, 0, none⟩)) := (blk_cell (blk_up hh hb) 0).trans rfl
      have z1 : w.cell? ⟨b2, 1, none⟩ = some (.pointer none) := (blk_cell (blk_up hh hb) 1).trans rfl
      have hF1 : Fits (r ++ (ind ++ ⟨#[105, 116, 101, 109, 115, 58, 10]⟩)) (descr D (bs (ind ++ ⟨#[32, 32]⟩ ++ ⟨#[32, 32]⟩)) x ++ rest) whole := hF.app (by simp [secO, secT, bs_app, bs, hk])
      have hL := hF1.le hW
      have hs := hF1.size
      simp only [ByteArray.size_append] at hs
      have e0 : (⟨#[105, 116, 101, 109, 115, 58, 10]⟩ : ByteArray).size = 7 := rfl
      rw [e0] at hs
      clear e0
      have c0 : ¬ (9223372036854775807 < ind.size + 7) := by omega
      have cz : ¬ (9223372036854775807 < r.size + (ind.size + 7)) := by omega
      have d0 : ¬ (9223372036854775807 < ind.size + 2) := by omega
      have d2 : ¬ (9223372036854775807 < ind.size + 2 + 2) := by omega
      have HC := Lib.hid (hI x kx (ind ++ ⟨#[32, 32]⟩ ++ ⟨#[32, 32]⟩) w hb hr (hok1 x rfl hk) hL)
      have HF1 := Lib.hid hF1
      clear hF hF1 hs hr hL hh
      dsimp only [dlit]
      conv => arg 2; whnf
      go_wp2_with fail
      go_at_call 51
      refine HC.out.mono ?_
      rintro e w1 ⟨s, rfl, hs1, hb1⟩
      have HF := Lib.hid (HF1.out.text hs1)
      have hs2 := HF.out.size
      simp only [ByteArray.size_append] at hs2
      have e0 : (⟨#[105, 116, 101, 109, 115, 58, 10]⟩ : ByteArray).size = 7 := rfl
      rw [e0] at hs2
      clear e0
      have d1 : ¬ (9223372036854775807 < r.size + (ind.size + 7) + s.size) := by omega
      have HB1 := Lib.hid hb1
      clear hb1 hs1 hs2
      go_wp2
      exact HK.out.at (u := u) (lo := 330) (hi := 390) HF.out (HB1.out) (by unfold DFrame; kernel_rfl)

set_option maxRecDepth 1000000 in
set_option maxHeartbeats 8000000 in
theorem sec_Enum (S : Nat → Prop) (w0 : World) (D : Nat) (Ok : Dat → Prop) (sch o : Option Dat) (b : Nat) (ind r : ByteArray) (rest whole : List UInt8) (u : Nat → Value) (w : World) (K : Act → World → Prop) (Q' : Exit → Act → World → Prop) (f : Value)
    (hb : Below w0.heap.size w0 w) (hf0 : w0.cell? ⟨b, 26, none⟩ = some f) (ho : FieldO S w0 (Sch S w0 D) 11 o f)
    (h60 : ∀ x, o = some x → x.items.length ≤ 60) (hF : Fits r (secO (descr D) (bs ind) sch (kEnum, 11, [101, 110, 117, 109, 101, 114, 97, 116, 105, 111, 110]) o ++ rest) whole) (hW : whole.length ≤ 9223372036854775807) (hK : DK b ind rest whole w K) :
    (dSec 26).wp Tryz.prog (Exit.then K Q') (dlit b ind r u) w := by
  have HK := Lib.hid hK
  have hf := cell_up hb _ _ hf0
  clear hK hf0
  cases o with
  | none =>
    have e : f = .pointer none := ho
    subst e
    have HF := Lib.hid (show Fits r rest whole from hF)
    clear hF ho
    dsimp only [dlit]
    conv => arg 2; whnf
    go_wp2
    exact HK.out.at (u := u) (lo := 705) (hi := 749) HF.out (Below.refl _ _) (by unfold DFrame; kernel_rfl)
  | some x =>
    obtain ⟨bx, sv, rfl, -, hx0, A, c, rfl, hnc, hcm, hel⟩ := (show SlicePtr S w0 2 x.items.length (EnumAt S w0 x) f from ho)
    have hx := cell_up hb _ _ hx0
    have HEL := Lib.hid hel
    have h60 := h60 x rfl
    clear hel hx0
    have hF1 : Fits (r ++ (ind ++ ⟨#[101, 110, 117, 109, 101, 114, 97, 116, 105, 111, 110, 58, 10]⟩)) (enumT (bs ind) (x.items.drop 0) ++ rest) whole := hF.app (by simp [secO, secT, bs_app, bs])
    have hs := hF1.size
    simp only [ByteArray.size_append] at hs
    have e0 : (⟨#[101, 110, 117, 109, 101, 114, 97, 116, 105, 111, 110, 58, 10]⟩ : ByteArray).size = 13 := rfl
    rw [e0] at hs
    clear e0
    have c0 : ¬ (9223372036854775807 < ind.size + 13) := by omega
    have cz : ¬ (9223372036854775807 < r.size + (ind.size + 13)) := by omega
    have HF := Lib.hid hF1
    clear hF hF1 hs ho
    dsimp only [dlit]
    conv => arg 2; whnf
    go_wp2
    go_loopg [5, 721] x.items.length (fun gk v5 vi wr => ∃ (i : Nat) (r : ByteArray), v5 = .string r ∧ vi = .int .i64 i ∧ i + gk = x.items.length ∧ Hid (Fits r (enumT (bs ind) (x.items.drop i) ++ rest) whole) ∧ Hid (Below w.heap.size w wr))
    case atStart => exact ⟨0, _, rfl, rfl, by omega, HF, Lib.hid (Below.refl _ _)⟩
    case round =>
      clear HF
      obtain ⟨i, r1, rfl, rfl, hi, HFr, HBr⟩ := hrel
      by_cases hlt : i < x.items.length
      · obtain ⟨g, us, rfl, -, -, hcell, hli, uu, hcase⟩ := HEL.out i hlt
        have hup := up_trans hb HBr.out
        have hF0 := HFr.out
        rw [enumT_at hlt] at hF0
        have j1 : (i : Int) < (x.items.length : Int) := by omega
        obtain ⟨y, hy⟩ : ∃ y, x.items[i] = y := ⟨_, rfl⟩
        rw [hy] at hF0 hcase
        clear hy
        rcases hcase with ⟨hk, rfl, bp, bo, rfl, -, hp⟩ | ⟨hk, rfl, bp, bo, rfl, -, hp⟩
        · rw [if_pos hk] at hF0
          have hc0 := cell_up hup _ _ (hcell 0 _ rfl)
          have hc1 := cell_up hup _ _ (hcell 1 _ rfl)
          rw [Nat.add_zero] at hc0
          have hp1 := cell_up hup _ _ hp
          have hp2 : ∀ o1, (wr.alloc o1).cell? ⟨bp, bo, none⟩ = some (.string y.text) := fun o1 => cell_up (up_alloc (Below.refl _ _) o1) _ _ hp1
          obtain ⟨s, hs0⟩ : ∃ s, y.text = s := ⟨_, rfl⟩
          rw [hs0] at hF0 hp1 hp2
          clear hs0 hk hp hcell
          have hF2 : Fits (r1 ++ (ind ++ ⟨#[32, 32]⟩ ++ s ++ ⟨#[10]⟩)) (enumT (bs ind) (x.items.drop (i + 1)) ++ rest) whole := hF0.app (by simp [bs_app, bs])
          have hs := hF2.size
          simp only [ByteArray.size_append] at hs
          have e0 : (⟨#[32, 32]⟩ : ByteArray).size = 2 := rfl
          have e1 : (⟨#[10]⟩ : ByteArray).size = 1 := rfl
          rw [e0, e1] at hs
          clear e0 e1
          have c0 : ¬ (9223372036854775807 < ind.size + 2) := by omega
          have c1 : ¬ (9223372036854775807 < ind.size + 2 + s.size) := by omega
          have c2 : ¬ (9223372036854775807 < ind.size + 2 + s.size + 1) := by omega
          have cz : ¬ (9223372036854775807 < r1.size + (ind.size + 2 + s.size + 1)) := by omega
          have HF := Lib.hid hF2
          clear hF0 hF2 hs
          go_wp2
          go_roundg (x.items.length - (i + 1))
          case measure => omega
          case rel => exact ⟨i + 1, _, rfl, by go_num, by omega, HF, Lib.hid (up_trans HBr.out (up_alloc (Below.refl _ _) _))⟩
        · rw [if_neg (by omega)] at hF0
          have hc0 := cell_up hup _ _ (hcell 0 _ rfl)
          have hc1 := cell_up hup _ _ (hcell 1 _ rfl)
          rw [Nat.add_zero] at hc0
          have hp1 := cell_up hup _ _ hp
          have hp2 : ∀ o1, (wr.alloc o1).cell? ⟨bp, bo, none⟩ = some (.bool (y.num == 1)) := fun o1 => cell_up (up_alloc (Below.refl _ _) o1) _ _ hp1
          have HC := Lib.hid (FormatBool_D y)
          obtain ⟨s, hs0⟩ : ∃ s, boolT y = s := ⟨_, rfl⟩
          rw [hs0] at hF0 HC
          clear hs0 hk hp hcell
          have hF2 : Fits (r1 ++ (ind ++ ⟨#[32, 32]⟩ ++ s ++ ⟨#[10]⟩)) (enumT (bs ind) (x.items.drop (i + 1)) ++ rest) whole := hF0.app (by simp [bs_app, bs])
          have hs := hF2.size
          simp only [ByteArray.size_append] at hs
          have e0 : (⟨#[32, 32]⟩ : ByteArray).size = 2 := rfl
          have e1 : (⟨#[10]⟩ : ByteArray).size = 1 := rfl
          rw [e0, e1] at hs
          clear e0 e1
          have c0 : ¬ (9223372036854775807 < ind.size + 2) := by omega
          have c1 : ¬ (9223372036854775807 < ind.size + 2 + s.size) := by omega
          have c2 : ¬ (9223372036854775807 < ind.size + 2 + s.size + 1) := by omega
          have cz : ¬ (9223372036854775807 < r1.size + (ind.size + 2 + s.size + 1)) := by omega
          have HF := Lib.hid hF2
          clear hF0 hF2 hs
          go_wp2_with fail
          go_at_call 48
          refine (HC.out _).mono ?_
          rintro e w1 ⟨rfl, rfl⟩
          go_wp2
          go_roundg (x.items.length - (i + 1))
          case measure => omega
          case rel => exact ⟨i + 1, _, rfl, by go_num, by omega, HF, Lib.hid (up_trans HBr.out (up_alloc (Below.refl _ _) _))⟩
      · have HF := Lib.hid (show Fits r1 rest whole by
          have h := HFr.out
          rwa [enumT_end (by omega), List.nil_append] at h)
        go_wp2
        exact HK.out.at (u := u) (lo := 705) (hi := 749) HF.out (HBr.out) (by unfold DFrame; kernel_rfl)

end Go.Proofs.YthdnkcofcbinhaaGreatDoor
