/- describeSchema: sections. -/
import Derived.Test.YthdnkcofcbinhaaGreatDoorDhJ
set_option linter.unusedVariables false
set_option linter.unusedSimpArgs false
namespace Go.Proofs.YthdnkcofcbinhaaGreatDoor
open Go.RowKit

set_option maxRecDepth 1000000 in
set_option maxHeartbeats 8000000 in
theorem sec_AdditionalItems (S : Nat → Prop) (w0 : World) (D : Nat) (Ok : Dat → Prop) (sch o : Option Dat) (b : Nat) (ind r : ByteArray) (rest whole : List UInt8) (u : Nat → Value) (w : World) (K : Act → World → Prop) (Q' : Exit → Act → World → Prop) (f : Value)
    (hb : Below w0.heap.size w0 w) (hf0 : w0.cell? ⟨b, 14, none⟩ = some f) (ho : FieldO S w0 (Sch S w0 D) 6 o f)
    (hI : IHd S w0 D Ok) (hok : ∀ x, o = some x → x.kind = 5 → Ok x) (hF : Fits r (secO (descr D) (bs ind) sch (kAdditionalItems, 6, [97, 100, 100, 105, 116, 105, 111, 110, 97, 108, 73, 116, 101, 109, 115]) o ++ rest) whole) (hW : whole.length ≤ 9223372036854775807) (hK : DK b ind rest whole w K) :
    (dSec 14).wp Tryz.prog (Exit.then K Q') (dlit b ind r u) w := by
  have HK := Lib.hid hK
  have hf := cell_up hb _ _ hf0
  clear hK hf0
  cases o with
  | none =>
    have e : f = .pointer none := ho
    subst e
    have HF := Lib.hid (show Fits r rest whole from hF)
    clear hF ho
    dsimp only [dlit]
    conv => arg 2; whnf
    go_wp2
    exact HK.out.at (u := u) (lo := 289) (hi := 329) HF.out (Below.refl _ _) (by unfold DFrame; kernel_rfl)
  | some x =>
    obtain ⟨b2, rfl, -, hcase⟩ := (show ∃ b, f = .pointer (some ⟨b, 0, none⟩) ∧ S b ∧ ((x.kind = 1 ∧ ∃ g, w0.heap[b]? = some (.cells #[.pointer none, g] 100 (0, 0)) ∧ PtrTo S w0 g (.bool (x.num == 1))) ∨
          (x.kind = 5 ∧ ∃ k, w0.heap[b]? = some (.cells #[.pointer (some ⟨k, 0, none⟩), .pointer none] 100 (0, 0)) ∧ Sch S w0 D x k)) from ho)
    clear ho
    rcases hcase with ⟨hk, gg, hh, bx, ox, rfl, -, hx0⟩ | ⟨hk, kx, hh, hr⟩
    · have z0 : w.cell? ⟨b2, 0, none⟩ = some (.pointer none) := (blk_cell (blk_up hh hb) 0).trans rfl
      have z1 : w.cell? ⟨b2, 1, none⟩ = some (.pointer (some ⟨bx, ox, none⟩)) := (blk_cell (blk_up hh hb) 1).trans rfl
      have hx := cell_up hb _ _ hx0
      have HC := Lib.hid (FormatBool_D x)
      obtain ⟨s, hs0⟩ : ∃ s, boolT x = s := ⟨_, rfl⟩
      rw [hs0] at HC
      have hF1 : Fits (r ++ (ind ++ ⟨#[97, 100, 100, 105, 116, 105, 111, 110, 97, 108, 73, 116, 101, 109, 115, 58, 32]⟩ ++ s ++ ⟨#[10]⟩)) rest whole := hF.app (by simp [secO, secT, bs_app, bs, hs0, hk])
      have hs := hF1.size
      simp only [ByteArray.size_append] at hs
      have e0 : (⟨#[97, 100, 100, 105, 116, 105, 111, 110, 97, 108, 73, 116, 101, 109, 115, 58, 32]⟩ : ByteArray).size = 17 := rfl
      have e1 : (⟨#[10]⟩ : ByteArray).size = 1 := rfl
      rw [e0, e1] at hs
      clear e0 e1
      have c0 : ¬ (9223372036854775807 < ind.size + 17) := by omega
      have c1 : ¬ (9223372036854775807 < ind.size + 17 + s.size) := by omega
      have c2 : ¬ (9223372036854775807 < ind.size + 17 + s.size + 1) := by omega
      have cz : ¬ (9223372036854775807 < r.size + (ind.size + 17 + s.size + 1)) := by omega
      have HF := Lib.hid hF1
      clear hF hF1 hs
      clear hx0 hs0 hh hk
      dsimp only [dlit]
      conv => arg 2; whnf
      go_wp2_with fail
      go_at_call 48
      refine (HC.out _).mono ?_
      rintro e w1 ⟨rfl, rfl⟩
      go_wp2
      exact HK.out.at (u := u) (lo := 289) (hi := 329) HF.out (Below.refl _ _) (by unfold DFrame; kernel_rfl)
    · have z0 : w.cell? ⟨b2, 0, none⟩ = some (.pointer (some ⟨kx, 0, none⟩)) := (blk_cell (blk_up hh hb) 0).trans rfl
      have hF1 : Fits (r ++ (ind ++ ⟨#[97, 100, 100, 105, 116, 105, 111, 110, 97, 108, 73, 116, 101, 109, 115, 58, 10]⟩)) (descr D (bs (ind ++ ⟨#[32, 32]⟩)) x ++ rest) whole := hF.app (by simp [secO, secT, bs_app, bs, hk])
      have hL := hF1.le hW
      have hs := hF1.size
      simp only [ByteArray.size_append] at hs
      have e0 : (⟨#[97, 100, 100, 105, 116, 105, 111, 110, 97, 108, 73, 116, 101, 109, 115, 58, 10]⟩ : ByteArray).size = 17 := rfl
      rw [e0] at hs
      clear e0
      have c0 : ¬ (9223372036854775807 < ind.size + 17) := by omega
      have cz : ¬ (9223372036854775807 < r.size + (ind.size + 17)) := by omega
      have d0 : ¬ (9223372036854775807 < ind.size + 2) := by omega
      have HC := Lib.hid (hI x kx (ind ++ ⟨#[32, 32]⟩) w hb hr (hok x rfl hk) hL)
      have HF1 := Lib.hid hF1
      clear hF hF1 hs hr hL hh
      dsimp only [dlit]
      conv => arg 2; whnf
      go_wp2_with fail
      go_at_call 51
      refine HC.out.mono ?_
      rintro e w1 ⟨s, rfl, hs1, hb1⟩
      have HF := Lib.hid (HF1.out.text hs1)
      have hs2 := HF.out.size
      simp only [ByteArray.size_append] at hs2
      have e0 : (⟨#[97, 100, 100, 105, 116, 105, 111, 110, 97, 108, 73, 116, 101, 109, 115, 58, 10]⟩ : ByteArray).size = 17 := rfl
      rw [e0] at hs2
      clear e0
      have d1 : ¬ (9223372036854775807 < r.size + (ind.size + 17) + s.size) := by omega
      have HB1 := Lib.hid hb1
      clear hb1 hs1 hs2
      go_wp2
      exact HK.out.at (u := u) (lo := 289) (hi := 329) HF.out (HB1.out) (by unfold DFrame; kernel_rfl)

set_option maxRecDepth 1000000 in
set_option maxHeartbeats 8000000 in
theorem sec_AdditionalProperties (S : Nat → Prop) (w0 : World) (D : Nat) (Ok : Dat → Prop) (sch o : Option Dat) (b : Nat) (ind r : ByteArray) (rest whole : List UInt8) (u : Nat → Value) (w : World) (K : Act → World → Prop) (Q' : Exit → Act → World → Prop) (f : Value)
    (hb : Below w0.heap.size w0 w) (hf0 : w0.cell? ⟨b, 22, none⟩ = some f) (ho : FieldO S w0 (Sch S w0 D) 6 o f)
    (hI : IHd S w0 D Ok) (hok : ∀ x, o = some x → x.kind = 5 → Ok x) (hF : Fits r (secO (descr D) (bs ind) sch (kAdditionalProperties, 6, [97, 100, 100, 105, 116, 105, 111, 110, 97, 108, 80, 114, 111, 112, 101, 114, 116, 105, 101, 115]) o ++ rest) whole) (hW : whole.length ≤ 9223372036854775807) (hK : DK b ind rest whole w K) :
    (dSec 22).wp Tryz.prog (Exit.then K Q') (dlit b ind r u) w := by
  have HK := Lib.hid hK
  have hf := cell_up hb _ _ hf0
  clear hK hf0
  cases o with
  | none =>
    have e : f = .pointer none := ho
    subst e
    have HF := Lib.hid (show Fits r rest whole from hF)
    clear hF ho
    dsimp only [dlit]
    conv => arg 2; whnf
    go_wp2
    exact HK.out.at (u := u) (lo := 499) (hi := 539) HF.out (Below.refl _ _) (by unfold DFrame; kernel_rfl)
  | some x =>
    obtain ⟨b2, rfl, -, hcase⟩ := (show ∃ b, f = .pointer (some ⟨b, 0, none⟩) ∧ S b ∧ ((x.kind = 1 ∧ ∃ g, w0.heap[b]? = some (.cells #[.pointer none, g] 100 (0, 0)) ∧ PtrTo S w0 g (.bool (x.num == 1))) ∨
          (x.kind = 5 ∧ ∃ k, w0.heap[b]? = some (.cells #[.pointer (some ⟨k, 0, none⟩), .pointer none] 100 (0, 0)) ∧ Sch S w0 D x k)) from ho)
    clear ho
    rcases hcase with ⟨hk, gg, hh, bx, ox, rfl, -, hx0⟩ | ⟨hk, kx, hh, hr⟩
    · have z0 : w.cell? ⟨b2, 0, none⟩ = some (.pointer none) := (blk_cell (blk_up hh hb) 0).trans rfl
      have z1 : w.cell? ⟨b2, 1, none⟩ = some (.pointer (some ⟨bx, ox, none⟩)) := (blk_cell (blk_up hh hb) 1).trans rfl
      have hx := cell_up hb _ _ hx0
      have HC := Lib.hid (FormatBool_D x)
      obtain ⟨s, hs0⟩ : ∃ s, boolT x = s := ⟨_, rfl⟩
      rw [hs0] at HC
      have hF1 : Fits (r ++ (ind ++ ⟨#[97, 100, 100, 105, 116, 105, 111, 110, 97, 108, 80, 114, 111, 112, 101, 114, 116, 105, 101, 115, 58, 32]⟩ ++ s ++ ⟨#[10]⟩)) rest whole := hF.app (by simp [secO, secT, bs_app, bs, hs0, hk])
      have hs := hF1.size
      simp only [ByteArray.size_append] at hs
      have e0 : (⟨#[97, 100, 100, 105, 116, 105, 111, 110, 97, 108, 80, 114, 111, 112, 101, 114, 116, 105, 101, 115, 58, 32]⟩ : ByteArray).size = 22 := rfl
      have e1 : (⟨#[10]⟩ : ByteArray).size = 1 := rfl
      rw [e0, e1] at hs
      clear e0 e1
      have c0 : ¬ (9223372036854775807 < ind.size + 22) := by omega
      have c1 : ¬ (9223372036854775807 < ind.size + 22 + s.size) := by omega
      have c2 : ¬ (9223372036854775807 < ind.size + 22 + s.size + 1) := by omega
      have cz : ¬ (9223372036854775807 < r.size + (ind.size + 22 + s.size + 1)) := by omega
      have HF := Lib.hid hF1
      clear hF hF1 hs
      clear hx0 hs0 hh hk
      dsimp only [dlit]
      conv => arg 2; whnf
      go_wp2_with fail
      go_at_call 48
      refine (HC.out _).mono ?_
      rintro e w1 ⟨rfl, rfl⟩
      go_wp2
      exact HK.out.at (u := u) (lo := 499) (hi := 539) HF.out (Below.refl _ _) (by unfold DFrame; kernel_rfl)
    · have z0 : w.cell? ⟨b2, 0, none⟩ = some (.pointer (some ⟨kx, 0, none⟩)) := (blk_cell (blk_up hh hb) 0).trans rfl
      have hF1 : Fits (r ++ (ind ++ ⟨#[97, 100, 100, 105, 116, 105, 111, 110, 97, 108, 80, 114, 111, 112, 101, 114, 116, 105, 101, 115, 58, 10]⟩)) (descr D (bs (ind ++ ⟨#[32, 32]⟩)) x ++ rest) whole := hF.app (by simp [secO, secT, bs_app, bs, hk])
      have hL := hF1.le hW
      have hs := hF1.size
      simp only [ByteArray.size_append] at hs
      have e0 : (⟨#[97, 100, 100, 105, 116, 105, 111, 110, 97, 108, 80, 114, 111, 112, 101, 114, 116, 105, 101, 115, 58, 10]⟩ : ByteArray).size = 22 := rfl
      rw [e0] at hs
      clear e0
      have c0 : ¬ (9223372036854775807 < ind.size + 22) := by omega
      have cz : ¬ (9223372036854775807 < r.size + (ind.size + 22)) := by omega
      have d0 : ¬ (9223372036854775807 < ind.size + 2) := by omega
      have HC := Lib.hid (hI x kx (ind ++ ⟨#[32, 32]⟩) w hb hr (hok x rfl hk) hL)
      have HF1 := Lib.hid hF1
      clear hF hF1 hs hr hL hh
      dsimp only [dlit]
      conv => arg 2; whnf
      go_wp2_with fail
      go_at_call 51
      refine HC.out.mono ?_
      rintro e w1 ⟨s, rfl, hs1, hb1⟩
      have HF := Lib.hid (HF1.out.text hs1)
      have hs2 := HF.out.size
      simp only [ByteArray.size_append] at hs2
      have e0 : (⟨#[97, 100, 100, 105, 116, 105, 111, 110, 97, 108, 80, 114, 111, 112, 101, 114, 116, 105, 101, 115, 58, 10]⟩ : ByteArray).size = 22 := rfl
      rw [e0] at hs2
      clear e0
      have d1 : ¬ (9223372036854775807 < r.size + (ind.size + 22) + s.size) := by omega
      have HB1 := Lib.hid hb1
      clear hb1 hs1 hs2
      go_wp2
      exact HK.out.at (u := u) (lo := 499) (hi := 539) HF.out (HB1.out) (by unfold DFrame; kernel_rfl)

set_option maxRecDepth 1000000 in
set_option maxHeartbeats 8000000 in
theorem sec_Not (S : Nat → Prop) (w0 : World) (D : Nat) (Ok : Dat → Prop) (sch o : Option Dat) (b : Nat) (ind r : ByteArray) (rest whole : List UInt8) (u : Nat → Value) (w : World) (K : Act → World → Prop) (Q' : Exit → Act → World → Prop) (f : Value)
    (hb : Below w0.heap.size w0 w) (hf0 : w0.cell? ⟨b, 31, none⟩ = some f) (ho : FieldO S w0 (Sch S w0 D) 5 o f)
    (hI : IHd S w0 D Ok) (hok : ∀ x, o = some x → Ok x) (hF : Fits r (secO (descr D) (bs ind) sch (kNot, 5, [110, 111, 116]) o ++ rest) whole) (hW : whole.length ≤ 9223372036854775807) (hK : DK b ind rest whole w K) :
    (dSec 31).wp Tryz.prog (Exit.then K Q') (dlit b ind r u) w := by
  have HK := Lib.hid hK
  have hf := cell_up hb _ _ hf0
  clear hK hf0
  cases o with
  | none =>
    have e : f = .pointer none := ho
    subst e
    have HF := Lib.hid (show Fits r rest whole from hF)
    clear hF ho
    dsimp only [dlit]
    conv => arg 2; whnf
    go_wp2
    exact HK.out.at (u := u) (lo := 859) (hi := 876) HF.out (Below.refl _ _) (by unfold DFrame; kernel_rfl)
  | some x =>
    obtain ⟨kx, rfl, hr⟩ := (show ∃ k, f = .pointer (some ⟨k, 0, none⟩) ∧ Sch S w0 D x k from ho)
    have hF1 : Fits (r ++ (ind ++ ⟨#[110, 111, 116, 58, 10]⟩)) (descr D (bs (ind ++ ⟨#[32, 32]⟩)) x ++ rest) whole := hF.app (by simp [secO, secT, bs_app, bs])
    have hL := hF1.le hW
    have hi2 : (descr D (bs (ind ++ ⟨#[32, 32]⟩)) x).length + (ind.size + 2) ≤ 9223372036854775807 ∨ True := .inr trivial
    have hs := hF1.size
    simp only [ByteArray.size_append] at hs
    have e0 : (⟨#[110, 111, 116, 58, 10]⟩ : ByteArray).size = 5 := rfl
    rw [e0] at hs
    clear e0
    have c0 : ¬ (9223372036854775807 < ind.size + 5) := by omega
    have cz : ¬ (9223372036854775807 < r.size + (ind.size + 5)) := by omega
    have d0 : ¬ (9223372036854775807 < ind.size + 2) := by omega
    have HC := Lib.hid (hI x kx (ind ++ ⟨#[32, 32]⟩) w hb hr (hok x rfl) hL)
    have HF1 := Lib.hid hF1
    clear hF hF1 hs ho hr hL hi2
    dsimp only [dlit]
    conv => arg 2; whnf
    go_wp2_with fail
    go_at_call 51
    refine HC.out.mono ?_
    rintro e w1 ⟨s, rfl, hs1, hb1⟩
    have HF := Lib.hid (HF1.out.text hs1)
    have hs2 := HF.out.size
    simp only [ByteArray.size_append] at hs2
    have e0 : (⟨#[110, 111, 116, 58, 10]⟩ : ByteArray).size = 5 := rfl
    rw [e0] at hs2
    clear e0
    have d1 : ¬ (9223372036854775807 < r.size + (ind.size + 5) + s.size) := by omega
    have HB1 := Lib.hid hb1
    clear hb1 hs1 hs2
    go_wp2
    exact HK.out.at (u := u) (lo := 859) (hi := 876) HF.out (HB1.out) (by unfold DFrame; kernel_rfl)

end Go.Proofs.YthdnkcofcbinhaaGreatDoor
