/- describeSchema: sections. -/
import Derived.Test.YthdnkcofcbinhaaGreatDoorDhJ
set_option linter.unusedVariables false
set_option linter.unusedSimpArgs false
namespace Go.Proofs.YthdnkcofcbinhaaGreatDoor
open Go.RowKit

set_option maxRecDepth 1000000 in
set_option maxHeartbeats 8000000 in
theorem sec_ExclusiveMaximum (S : Nat → Prop) (w0 : World) (D : Nat) (Ok : Dat → Prop) (sch o : Option Dat) (b : Nat) (ind r : ByteArray) (rest whole : List UInt8) (u : Nat → Value) (w : World) (K : Act → World → Prop) (Q' : Exit → Act → World → Prop) (f : Value)
    (hb : Below w0.heap.size w0 w) (hf0 : w0.cell? ⟨b, 8, none⟩ = some f) (ho : FieldO S w0 (Sch S w0 D) 2 o f)
    (hF : Fits r (secO (descr D) (bs ind) sch (kExclusiveMaximum, 2, [101, 120, 99, 108, 117, 115, 105, 118, 101, 77, 97, 120, 105, 109, 117, 109]) o ++ rest) whole) (hW : whole.length ≤ 9223372036854775807) (hK : DK b ind rest whole w K) :
    (dSec 8).wp Tryz.prog (Exit.then K Q') (dlit b ind r u) w := by
  have HK := Lib.hid hK
  have hf := cell_up hb _ _ hf0
  clear hK hf0
  cases o with
  | none =>
    have e : f = .pointer none := ho
    subst e
    have HF := Lib.hid (show Fits r rest whole from hF)
    clear hF ho
    dsimp only [dlit]
    conv => arg 2; whnf
    go_wp2
    exact HK.out.at (u := u) (lo := 184) (hi := 201) HF.out (Below.refl _ _) (by unfold DFrame; kernel_rfl)
  | some x =>
    obtain ⟨bx, ox, rfl, -, hx0⟩ := (show PtrTo S w0 f (.bool (x.num == 1)) from ho)
    have hx := cell_up hb _ _ hx0
    have HC := Lib.hid (FormatBool_D x)
    obtain ⟨s, hs0⟩ : ∃ s, boolT x = s := ⟨_, rfl⟩
    rw [hs0] at HC
    have hF1 : Fits (r ++ (ind ++ ⟨#[101, 120, 99, 108, 117, 115, 105, 118, 101, 77, 97, 120, 105, 109, 117, 109, 58, 32]⟩ ++ s ++ ⟨#[10]⟩)) rest whole := hF.app (by simp [secO, secT, bs_app, bs, hs0])
    have hs := hF1.size
    simp only [ByteArray.size_append] at hs
    have e0 : (⟨#[101, 120, 99, 108, 117, 115, 105, 118, 101, 77, 97, 120, 105, 109, 117, 109, 58, 32]⟩ : ByteArray).size = 18 := rfl
    have e1 : (⟨#[10]⟩ : ByteArray).size = 1 := rfl
    rw [e0, e1] at hs
    clear e0 e1
    have c0 : ¬ (9223372036854775807 < ind.size + 18) := by omega
    have c1 : ¬ (9223372036854775807 < ind.size + 18 + s.size) := by omega
    have c2 : ¬ (9223372036854775807 < ind.size + 18 + s.size + 1) := by omega
    have cz : ¬ (9223372036854775807 < r.size + (ind.size + 18 + s.size + 1)) := by omega
    have HF := Lib.hid hF1
    clear hF hF1 hs ho
    clear hx0 hs0
    dsimp only [dlit]
    conv => arg 2; whnf
    go_wp2_with fail
    go_at_call 48
    refine (HC.out _).mono ?_
    rintro e w1 ⟨rfl, rfl⟩
    go_wp2
    exact HK.out.at (u := u) (lo := 184) (hi := 201) HF.out (Below.refl _ _) (by unfold DFrame; kernel_rfl)

set_option maxRecDepth 1000000 in
set_option maxHeartbeats 8000000 in
theorem sec_ExclusiveMinimum (S : Nat → Prop) (w0 : World) (D : Nat) (Ok : Dat → Prop) (sch o : Option Dat) (b : Nat) (ind r : ByteArray) (rest whole : List UInt8) (u : Nat → Value) (w : World) (K : Act → World → Prop) (Q' : Exit → Act → World → Prop) (f : Value)
    (hb : Below w0.heap.size w0 w) (hf0 : w0.cell? ⟨b, 10, none⟩ = some f) (ho : FieldO S w0 (Sch S w0 D) 2 o f)
    (hF : Fits r (secO (descr D) (bs ind) sch (kExclusiveMinimum, 2, [101, 120, 99, 108, 117, 115, 105, 118, 101, 77, 105, 110, 105, 109, 117, 109]) o ++ rest) whole) (hW : whole.length ≤ 9223372036854775807) (hK : DK b ind rest whole w K) :
    (dSec 10).wp Tryz.prog (Exit.then K Q') (dlit b ind r u) w := by
  have HK := Lib.hid hK
  have hf := cell_up hb _ _ hf0
  clear hK hf0
  cases o with
  | none =>
    have e : f = .pointer none := ho
    subst e
    have HF := Lib.hid (show Fits r rest whole from hF)
    clear hF ho
    dsimp only [dlit]
    conv => arg 2; whnf
    go_wp2
    exact HK.out.at (u := u) (lo := 218) (hi := 235) HF.out (Below.refl _ _) (by unfold DFrame; kernel_rfl)
  | some x =>
    obtain ⟨bx, ox, rfl, -, hx0⟩ := (show PtrTo S w0 f (.bool (x.num == 1)) from ho)
    have hx := cell_up hb _ _ hx0
    have HC := Lib.hid (FormatBool_D x)
    obtain ⟨s, hs0⟩ : ∃ s, boolT x = s := ⟨_, rfl⟩
    rw [hs0] at HC
    have hF1 : Fits (r ++ (ind ++ ⟨#[101, 120, 99, 108, 117, 115, 105, 118, 101, 77, 105, 110, 105, 109, 117, 109, 58, 32]⟩ ++ s ++ ⟨#[10]⟩)) rest whole := hF.app (by simp [secO, secT, bs_app, bs, hs0])
    have hs := hF1.size
    simp only [ByteArray.size_append] at hs
    have e0 : (⟨#[101, 120, 99, 108, 117, 115, 105, 118, 101, 77, 105, 110, 105, 109, 117, 109, 58, 32]⟩ : ByteArray).size = 18 := rfl
    have e1 : (⟨#[10]⟩ : ByteArray).size = 1 := rfl
    rw [e0, e1] at hs
    clear e0 e1
    have c0 : ¬ (9223372036854775807 < ind.size + 18) := by omega
    have c1 : ¬ (9223372036854775807 < ind.size + 18 + s.size) := by omega
    have c2 : ¬ (9223372036854775807 < ind.size + 18 + s.size + 1) := by omega
    have cz : ¬ (9223372036854775807 < r.size + (ind.size + 18 + s.size + 1)) := by omega
    have HF := Lib.hid hF1
    clear hF hF1 hs ho
    clear hx0 hs0
    dsimp only [dlit]
    conv => arg 2; whnf
    go_wp2_with fail
    go_at_call 48
    refine (HC.out _).mono ?_
    rintro e w1 ⟨rfl, rfl⟩
    go_wp2
    exact HK.out.at (u := u) (lo := 218) (hi := 235) HF.out (Below.refl _ _) (by unfold DFrame; kernel_rfl)

set_option maxRecDepth 1000000 in
set_option maxHeartbeats 8000000 in
theorem sec_MaxLength (S : Nat → Prop) (w0 : World) (D : Nat) (Ok : Dat → Prop) (sch o : Option Dat) (b : Nat) (ind r : ByteArray) (rest whole : List UInt8) (u : Nat → Value) (w : World) (K : Act → World → Prop) (Q' : Exit → Act → World → Prop) (f : Value)
    (hb : Below w0.heap.size w0 w) (hf0 : w0.cell? ⟨b, 11, none⟩ = some f) (ho : FieldO S w0 (Sch S w0 D) 4 o f)
    (hT : Tab w0) (hnum : ∀ x, o = some x → -1000000000 < x.num ∧ x.num < 1000000000) (hF : Fits r (secO (descr D) (bs ind) sch (kMaxLength, 4, [109, 97, 120, 76, 101, 110, 103, 116, 104]) o ++ rest) whole) (hW : whole.length ≤ 9223372036854775807) (hK : DK b ind rest whole w K) :
    (dSec 11).wp Tryz.prog (Exit.then K Q') (dlit b ind r u) w := by
  have HK := Lib.hid hK
  have hf := cell_up hb _ _ hf0
  clear hK hf0
  cases o with
  | none =>
    have e : f = .pointer none := ho
    subst e
    have HF := Lib.hid (show Fits r rest whole from hF)
    clear hF ho
    dsimp only [dlit]
    conv => arg 2; whnf
    go_wp2
    exact HK.out.at (u := u) (lo := 236) (hi := 253) HF.out (Below.refl _ _) (by unfold DFrame; kernel_rfl)
  | some x =>
    obtain ⟨bx, ox, rfl, -, hx0⟩ := (show PtrTo S w0 f (.int .i64 x.num) from ho)
    have hx := cell_up hb _ _ hx0
    obtain ⟨n0, n1⟩ := hnum x rfl
    have HC := Lib.hid (FormatInt_any x.num w (by omega) (by omega) (hT.up hb))
    obtain ⟨s, hs0⟩ : ∃ s, intText x.num = s := ⟨_, rfl⟩
    rw [hs0] at HC
    have hF1 : Fits (r ++ (ind ++ ⟨#[109, 97, 120, 76, 101, 110, 103, 116, 104, 58, 32]⟩ ++ s ++ ⟨#[10]⟩)) rest whole := hF.app (by simp [secO, secT, bs_app, bs, hs0])
    have hs := hF1.size
    simp only [ByteArray.size_append] at hs
    have e0 : (⟨#[109, 97, 120, 76, 101, 110, 103, 116, 104, 58, 32]⟩ : ByteArray).size = 11 := rfl
    have e1 : (⟨#[10]⟩ : ByteArray).size = 1 := rfl
    rw [e0, e1] at hs
    clear e0 e1
    have c0 : ¬ (9223372036854775807 < ind.size + 11) := by omega
    have c1 : ¬ (9223372036854775807 < ind.size + 11 + s.size) := by omega
    have c2 : ¬ (9223372036854775807 < ind.size + 11 + s.size + 1) := by omega
    have cz : ¬ (9223372036854775807 < r.size + (ind.size + 11 + s.size + 1)) := by omega
    have HF := Lib.hid hF1
    clear hF hF1 hs ho
    clear hx0 hs0 n0 n1
    dsimp only [dlit]
    conv => arg 2; whnf
    go_wp2_with fail
    go_at_call 49
    refine HC.out.mono ?_
    rintro e w1 ⟨rfl, hb1⟩
    have HB1 := Lib.hid hb1
    clear hb1
    go_wp2
    exact HK.out.at (u := u) (lo := 236) (hi := 253) HF.out (HB1.out) (by unfold DFrame; kernel_rfl)

set_option maxRecDepth 1000000 in
set_option maxHeartbeats 8000000 in
theorem sec_MinLength (S : Nat → Prop) (w0 : World) (D : Nat) (Ok : Dat → Prop) (sch o : Option Dat) (b : Nat) (ind r : ByteArray) (rest whole : List UInt8) (u : Nat → Value) (w : World) (K : Act → World → Prop) (Q' : Exit → Act → World → Prop) (f : Value)
    (hb : Below w0.heap.size w0 w) (hf0 : w0.cell? ⟨b, 12, none⟩ = some f) (ho : FieldO S w0 (Sch S w0 D) 4 o f)
    (hT : Tab w0) (hnum : ∀ x, o = some x → -1000000000 < x.num ∧ x.num < 1000000000) (hF : Fits r (secO (descr D) (bs ind) sch (kMinLength, 4, [109, 105, 110, 76, 101, 110, 103, 116, 104]) o ++ rest) whole) (hW : whole.length ≤ 9223372036854775807) (hK : DK b ind rest whole w K) :
    (dSec 12).wp Tryz.prog (Exit.then K Q') (dlit b ind r u) w := by
  have HK := Lib.hid hK
  have hf := cell_up hb _ _ hf0
  clear hK hf0
  cases o with
  | none =>
    have e : f = .pointer none := ho
    subst e
    have HF := Lib.hid (show Fits r rest whole from hF)
    clear hF ho
    dsimp only [dlit]
    conv => arg 2; whnf
    go_wp2
    exact HK.out.at (u := u) (lo := 254) (hi := 271) HF.out (Below.refl _ _) (by unfold DFrame; kernel_rfl)
  | some x =>
    obtain ⟨bx, ox, rfl, -, hx0⟩ := (show PtrTo S w0 f (.int .i64 x.num) from ho)
    have hx := cell_up hb _ _ hx0
    obtain ⟨n0, n1⟩ := hnum x rfl
    have HC := Lib.hid (FormatInt_any x.num w (by omega) (by omega) (hT.up hb))
    obtain ⟨s, hs0⟩ : ∃ s, intText x.num = s := ⟨_, rfl⟩
    rw [hs0] at HC
    have hF1 : Fits (r ++ (ind ++ ⟨#[109, 105, 110, 76, 101, 110, 103, 116, 104, 58, 32]⟩ ++ s ++ ⟨#[10]⟩)) rest whole := hF.app (by simp [secO, secT, bs_app, bs, hs0])
    have hs := hF1.size
    simp only [ByteArray.size_append] at hs
    have e0 : (⟨#[109, 105, 110, 76, 101, 110, 103, 116, 104, 58, 32]⟩ : ByteArray).size = 11 := rfl
    have e1 : (⟨#[10]⟩ : ByteArray).size = 1 := rfl
    rw [e0, e1] at hs
    clear e0 e1
    have c0 : ¬ (9223372036854775807 < ind.size + 11) := by omega
    have c1 : ¬ (9223372036854775807 < ind.size + 11 + s.size) := by omega
    have c2 : ¬ (9223372036854775807 < ind.size + 11 + s.size + 1) := by omega
    have cz : ¬ (9223372036854775807 < r.size + (ind.size + 11 + s.size + 1)) := by omega
    have HF := Lib.hid hF1
    clear hF hF1 hs ho
    clear hx0 hs0 n0 n1
    dsimp only [dlit]
    conv => arg 2; whnf
    go_wp2_with fail
    go_at_call 49
    refine HC.out.mono ?_
    rintro e w1 ⟨rfl, hb1⟩
    have HB1 := Lib.hid hb1
    clear hb1
    go_wp2
    exact HK.out.at (u := u) (lo := 254) (hi := 271) HF.out (HB1.out) (by unfold DFrame; kernel_rfl)

set_option maxRecDepth 1000000 in
set_option maxHeartbeats 8000000 in
theorem sec_MaxItems (S : Nat → Prop) (w0 : World) (D : Nat) (Ok : Dat → Prop) (sch o : Option Dat) (b : Nat) (ind r : ByteArray) (rest whole : List UInt8) (u : Nat → Value) (w : World) (K : Act → World → Prop) (Q' : Exit → Act → World → Prop) (f : Value)
    (hb : Below w0.heap.size w0 w) (hf0 : w0.cell? ⟨b, 16, none⟩ = some f) (ho : FieldO S w0 (Sch S w0 D) 4 o f)
    (hT : Tab w0) (hnum : ∀ x, o = some x → -1000000000 < x.num ∧ x.num < 1000000000) (hF : Fits r (secO (descr D) (bs ind) sch (kMaxItems, 4, [109, 97, 120, 73, 116, 101, 109, 115]) o ++ rest) whole) (hW : whole.length ≤ 9223372036854775807) (hK : DK b ind rest whole w K) :
    (dSec 16).wp Tryz.prog (Exit.then K Q') (dlit b ind r u) w := by
  have HK := Lib.hid hK
  have hf := cell_up hb _ _ hf0
  clear hK hf0
  cases o with
  | none =>
    have e : f = .pointer none := ho
    subst e
    have HF := Lib.hid (show Fits r rest whole from hF)
    clear hF ho
    dsimp only [dlit]
    conv => arg 2; whnf
    go_wp2
    exact HK.out.at (u := u) (lo := 391) (hi := 408) HF.out (Below.refl _ _) (by unfold DFrame; kernel_rfl)
  | some x =>
    obtain ⟨bx, ox, rfl, -, hx0⟩ := (show PtrTo S w0 f (.int .i64 x.num) from ho)
    have hx := cell_up hb _ _ hx0
    obtain ⟨n0, n1⟩ := hnum x rfl
    have HC := Lib.hid (FormatInt_any x.num w (by omega) (by omega) (hT.up hb))
    obtain ⟨s, hs0⟩ : ∃ s, intText x.num = s := ⟨_, rfl⟩
    rw [hs0] at HC
    have hF1 : Fits (r ++ (ind ++ ⟨#[109, 97, 120, 73, 116, 101, 109, 115, 58, 32]⟩ ++ s ++ ⟨#[10]⟩)) rest whole := hF.app (by simp [secO, secT, bs_app, bs, hs0])
    have hs := hF1.size
    simp only [ByteArray.size_append] at hs
    have e0 : (⟨#[109, 97, 120, 73, 116, 101, 109, 115, 58, 32]⟩ : ByteArray).size = 10 := rfl
    have e1 : (⟨#[10]⟩ : ByteArray).size = 1 := rfl
    rw [e0, e1] at hs
    clear e0 e1
    have c0 : ¬ (9223372036854775807 < ind.size + 10) := by omega
    have c1 : ¬ (9223372036854775807 < ind.size + 10 + s.size) := by omega
    have c2 : ¬ (9223372036854775807 < ind.size + 10 + s.size + 1) := by omega
    have cz : ¬ (9223372036854775807 < r.size + (ind.size + 10 + s.size + 1)) := by omega
    have HF := Lib.hid hF1
    clear hF hF1 hs ho
    clear hx0 hs0 n0 n1
    dsimp only [dlit]
    conv => arg 2; whnf
    go_wp2_with fail
    go_at_call 49
    refine HC.out.mono ?_
    rintro e w1 ⟨rfl, hb1⟩
    have HB1 := Lib.hid hb1
    clear hb1
    go_wp2
    exact HK.out.at (u := u) (lo := 391) (hi := 408) HF.out (HB1.out) (by unfold DFrame; kernel_rfl)

set_option maxRecDepth 1000000 in
set_option maxHeartbeats 8000000 in
theorem sec_MinItems (S : Nat → Prop) (w0 : World) (D : Nat) (Ok : Dat → Prop) (sch o : Option Dat) (b : Nat) (ind r : ByteArray) (rest whole : List UInt8) (u : Nat → Value) (w : World) (K : Act → World → Prop) (Q' : Exit → Act → World → Prop) (f : Value)
    (hb : Below w0.heap.size w0 w) (hf0 : w0.cell? ⟨b, 17, none⟩ = some f) (ho : FieldO S w0 (Sch S w0 D) 4 o f)
    (hT : Tab w0) (hnum : ∀ x, o = some x → -1000000000 < x.num ∧ x.num < 1000000000) (hF : Fits r (secO (descr D) (bs ind) sch (kMinItems, 4, [109, 105, 110, 73, 116, 101, 109, 115]) o ++ rest) whole) (hW : whole.length ≤ 9223372036854775807) (hK : DK b ind rest whole w K) :
    (dSec 17).wp Tryz.prog (Exit.then K Q') (dlit b ind r u) w := by
  have HK := Lib.hid hK
  have hf := cell_up hb _ _ hf0
  clear hK hf0
  cases o with
  | none =>
    have e : f = .pointer none := ho
    subst e
    have HF := Lib.hid (show Fits r rest whole from hF)
    clear hF ho
    dsimp only [dlit]
    conv => arg 2; whnf
    go_wp2
    exact HK.out.at (u := u) (lo := 409) (hi := 426) HF.out (Below.refl _ _) (by unfold DFrame; kernel_rfl)
  | some x =>
    obtain ⟨bx, ox, rfl, -, hx0⟩ := (show PtrTo S w0 f (.int .i64 x.num) from ho)
    have hx := cell_up hb _ _ hx0
    obtain ⟨n0, n1⟩ := hnum x rfl
    have HC := Lib.hid (FormatInt_any x.num w (by omega) (by omega) (hT.up hb))
    obtain ⟨s, hs0⟩ : ∃ s, intText x.num = s := ⟨_, rfl⟩
    rw [hs0] at HC
    have hF1 : Fits (r ++ (ind ++ ⟨#[109, 105, 110, 73, 116, 101, 109, 115, 58, 32]⟩ ++ s ++ ⟨#[10]⟩)) rest whole := hF.app (by simp [secO, secT, bs_app, bs, hs0])
    have hs := hF1.size
    simp only [ByteArray.size_append] at hs
    have e0 : (⟨#[109, 105, 110, 73, 116, 101, 109, 115, 58, 32]⟩ : ByteArray).size = 10 := rfl
    have e1 : (⟨#[10]⟩ : ByteArray).size = 1 := rfl
    rw [e0, e1] at hs
    clear e0 e1
    have c0 : ¬ (9223372036854775807 < ind.size + 10) := by omega
    have c1 : ¬ (9223372036854775807 < ind.size + 10 + s.size) := by omega
    have c2 : ¬ (9223372036854775807 < ind.size + 10 + s.size + 1) := by omega
    have cz : ¬ (9223372036854775807 < r.size + (ind.size + 10 + s.size + 1)) := by omega
    have HF := Lib.hid hF1
    clear hF hF1 hs ho
    clear hx0 hs0 n0 n1
    dsimp only [dlit]
    conv => arg 2; whnf
    go_wp2_with fail
    go_at_call 49
    refine HC.out.mono ?_
    rintro e w1 ⟨rfl, hb1⟩
    have HB1 := Lib.hid hb1
    clear hb1
    go_wp2
    exact HK.out.at (u := u) (lo := 409) (hi := 426) HF.out (HB1.out) (by unfold DFrame; kernel_rfl)

set_option maxRecDepth 1000000 in
set_option maxHeartbeats 8000000 in
theorem sec_UniqueItems (S : Nat → Prop) (w0 : World) (D : Nat) (Ok : Dat → Prop) (sch o : Option Dat) (b : Nat) (ind r : ByteArray) (rest whole : List UInt8) (u : Nat → Value) (w : World) (K : Act → World → Prop) (Q' : Exit → Act → World → Prop) (f : Value)
    (hb : Below w0.heap.size w0 w) (hf0 : w0.cell? ⟨b, 18, none⟩ = some f) (ho : FieldO S w0 (Sch S w0 D) 2 o f)
    (hF : Fits r (secO (descr D) (bs ind) sch (kUniqueItems, 2, [117, 110, 105, 113, 117, 101, 73, 116, 101, 109, 115]) o ++ rest) whole) (hW : whole.length ≤ 9223372036854775807) (hK : DK b ind rest whole w K) :
    (dSec 18).wp Tryz.prog (Exit.then K Q') (dlit b ind r u) w := by
  have HK := Lib.hid hK
  have hf := cell_up hb _ _ hf0
  clear hK hf0
  cases o with
  | none =>
    have e : f = .pointer none := ho
    subst e
    have HF := Lib.hid (show Fits r rest whole from hF)
    clear hF ho
    dsimp only [dlit]
    conv => arg 2; whnf
    go_wp2
    exact HK.out.at (u := u) (lo := 427) (hi := 444) HF.out (Below.refl _ _) (by unfold DFrame; kernel_rfl)
  | some x =>
    obtain ⟨bx, ox, rfl, -, hx0⟩ := (show PtrTo S w0 f (.bool (x.num == 1)) from ho)
    have hx := cell_up hb _ _ hx0
    have HC := Lib.hid (FormatBool_D x)
    obtain ⟨s, hs0⟩ : ∃ s, boolT x = s := ⟨_, rfl⟩
    rw [hs0] at HC
    have hF1 : Fits (r ++ (ind ++ ⟨#[117, 110, 105, 113, 117, 101, 73, 116, 101, 109, 115, 58, 32]⟩ ++ s ++ ⟨#[10]⟩)) rest whole := hF.app (by simp [secO, secT, bs_app, bs, hs0])
    have hs := hF1.size
    simp only [ByteArray.size_append] at hs
    have e0 : (⟨#[117, 110, 105, 113, 117, 101, 73, 116, 101, 109, 115, 58, 32]⟩ : ByteArray).size = 13 := rfl
    have e1 : (⟨#[10]⟩ : ByteArray).size = 1 := rfl
    rw [e0, e1] at hs
    clear e0 e1
    have c0 : ¬ (9223372036854775807 < ind.size + 13) := by omega
    have c1 : ¬ (9223372036854775807 < ind.size + 13 + s.size) := by omega
    have c2 : ¬ (9223372036854775807 < ind.size + 13 + s.size + 1) := by omega
    have cz : ¬ (9223372036854775807 < r.size + (ind.size + 13 + s.size + 1)) := by omega
    have HF := Lib.hid hF1
    clear hF hF1 hs ho
    clear hx0 hs0
    dsimp only [dlit]
    conv => arg 2; whnf
    go_wp2_with fail
    go_at_call 48
    refine (HC.out _).mono ?_
    rintro e w1 ⟨rfl, rfl⟩
    go_wp2
    exact HK.out.at (u := u) (lo := 427) (hi := 444) HF.out (Below.refl _ _) (by unfold DFrame; kernel_rfl)

set_option maxRecDepth 1000000 in
set_option maxHeartbeats 8000000 in
theorem sec_MaxProperties (S : Nat → Prop) (w0 : World) (D : Nat) (Ok : Dat → Prop) (sch o : Option Dat) (b : Nat) (ind r : ByteArray) (rest whole : List UInt8) (u : Nat → Value) (w : World) (K : Act → World → Prop) (Q' : Exit → Act → World → Prop) (f : Value)
    (hb : Below w0.heap.size w0 w) (hf0 : w0.cell? ⟨b, 19, none⟩ = some f) (ho : FieldO S w0 (Sch S w0 D) 4 o f)
    (hT : Tab w0) (hnum : ∀ x, o = some x → -1000000000 < x.num ∧ x.num < 1000000000) (hF : Fits r (secO (descr D) (bs ind) sch (kMaxProperties, 4, [109, 97, 120, 80, 114, 111, 112, 101, 114, 116, 105, 101, 115]) o ++ rest) whole) (hW : whole.length ≤ 9223372036854775807) (hK : DK b ind rest whole w K) :
    (dSec 19).wp Tryz.prog (Exit.then K Q') (dlit b ind r u) w := by
  have HK := Lib.hid hK
  have hf := cell_up hb _ _ hf0
  clear hK hf0
  cases o with
  | none =>
    have e : f = .pointer none := ho
    subst e
    have HF := Lib.hid (show Fits r rest whole from hF)
    clear hF ho
    dsimp only [dlit]
    conv => arg 2; whnf
    go_wp2
    exact HK.out.at (u := u) (lo := 445) (hi := 462) HF.out (Below.refl _ _) (by unfold DFrame; kernel_rfl)
  | some x =>
    obtain ⟨bx, ox, rfl, -, hx0⟩ := (show PtrTo S w0 f (.int .i64 x.num) from ho)
    have hx := cell_up hb _ _ hx0
    obtain ⟨n0, n1⟩ := hnum x rfl
    have HC := Lib.hid (FormatInt_any x.num w (by omega) (by omega) (hT.up hb))
    obtain ⟨s, hs0⟩ : ∃ s, intText x.num = s := ⟨_, rfl⟩
    rw [hs0] at HC
    have hF1 : Fits (r ++ (ind ++ ⟨#[109, 97, 120, 80, 114, 111, 112, 101, 114, 116, 105, 101, 115, 58, 32]⟩ ++ s ++ ⟨#[10]⟩)) rest whole := hF.app (by simp [secO, secT, bs_app, bs, hs0])
    have hs := hF1.size
    simp only [ByteArray.size_append] at hs
    have e0 : (⟨#[109, 97, 120, 80, 114, 111, 112, 101, 114, 116, 105, 101, 115, 58, 32]⟩ : ByteArray).size = 15 := rfl
    have e1 : (⟨#[10]⟩ : ByteArray).size = 1 := rfl
    rw [e0, e1] at hs
    clear e0 e1
    have c0 : ¬ (9223372036854775807 < ind.size + 15) := by omega
    have c1 : ¬ (9223372036854775807 < ind.size + 15 + s.size) := by omega
    have c2 : ¬ (9223372036854775807 < ind.size + 15 + s.size + 1) := by omega
    have cz : ¬ (9223372036854775807 < r.size + (ind.size + 15 + s.size + 1)) := by omega
    have HF := Lib.hid hF1
    clear hF hF1 hs ho
    clear hx0 hs0 n0 n1
    dsimp only [dlit]
    conv => arg 2; whnf
    go_wp2_with fail
    go_at_call 49
    refine HC.out.mono ?_
    rintro e w1 ⟨rfl, hb1⟩
    have HB1 := Lib.hid hb1
    clear hb1
    go_wp2
    exact HK.out.at (u := u) (lo := 445) (hi := 462) HF.out (HB1.out) (by unfold DFrame; kernel_rfl)

set_option maxRecDepth 1000000 in
set_option maxHeartbeats 8000000 in
theorem sec_MinProperties (S : Nat → Prop) (w0 : World) (D : Nat) (Ok : Dat → Prop) (sch o : Option Dat) (b : Nat) (ind r : ByteArray) (rest whole : List UInt8) (u : Nat → Value) (w : World) (K : Act → World → Prop) (Q' : Exit → Act → World → Prop) (f : Value)
    (hb : Below w0.heap.size w0 w) (hf0 : w0.cell? ⟨b, 20, none⟩ = some f) (ho : FieldO S w0 (Sch S w0 D) 4 o f)
    (hT : Tab w0) (hnum : ∀ x, o = some x → -1000000000 < x.num ∧ x.num < 1000000000) (hF : Fits r (secO (descr D) (bs ind) sch (kMinProperties, 4, [109, 105, 110, 80, 114, 111, 112, 101, 114, 116, 105, 101, 115]) o ++ rest) whole) (hW : whole.length ≤ 9223372036854775807) (hK : DK b ind rest whole w K) :
    (dSec 20).wp Tryz.prog (Exit.then K Q') (dlit b ind r u) w := by
  have HK := Lib.hid hK
  have hf := cell_up hb _ _ hf0
  clear hK hf0
  cases o with
  | none =>
    have e : f = .pointer none := ho
    subst e
    have HF := Lib.hid (show Fits r rest whole from hF)
    clear hF ho
    dsimp only [dlit]
    conv => arg 2; whnf
    go_wp2
    exact HK.out.at (u := u) (lo := 463) (hi := 480) HF.out (Below.refl _ _) (by unfold DFrame; kernel_rfl)
  | some x =>
    obtain ⟨bx, ox, rfl, -, hx0⟩ := (show PtrTo S w0 f (.int .i64 x.num) from ho)
    have hx := cell_up hb _ _ hx0
    obtain ⟨n0, n1⟩ := hnum x rfl
    have HC := Lib.hid (FormatInt_any x.num w (by omega) (by omega) (hT.up hb))
    obtain ⟨s, hs0⟩ : ∃ s, intText x.num = s := ⟨_, rfl⟩
    rw [hs0] at HC
    have hF1 : Fits (r ++ (ind ++ ⟨#[109, 105, 110, 80, 114, 111, 112, 101, 114, 116, 105, 101, 115, 58, 32]⟩ ++ s ++ ⟨#[10]⟩)) rest whole := hF.app (by simp [secO, secT, bs_app, bs, hs0])
    have hs := hF1.size
    simp only [ByteArray.size_append] at hs
    have e0 : (⟨#[109, 105, 110, 80, 114, 111, 112, 101, 114, 116, 105, 101, 115, 58, 32]⟩ : ByteArray).size = 15 := rfl
    have e1 : (⟨#[10]⟩ : ByteArray).size = 1 := rfl
    rw [e0, e1] at hs
    clear e0 e1
    have c0 : ¬ (9223372036854775807 < ind.size + 15) := by omega
    have c1 : ¬ (9223372036854775807 < ind.size + 15 + s.size) := by omega
    have c2 : ¬ (9223372036854775807 < ind.size + 15 + s.size + 1) := by omega
    have cz : ¬ (9223372036854775807 < r.size + (ind.size + 15 + s.size + 1)) := by omega
    have HF := Lib.hid hF1
    clear hF hF1 hs ho
    clear hx0 hs0 n0 n1
    dsimp only [dlit]
    conv => arg 2; whnf
    go_wp2_with fail
    go_at_call 49
    refine HC.out.mono ?_
    rintro e w1 ⟨rfl, hb1⟩
    have HB1 := Lib.hid hb1
    clear hb1
    go_wp2
    exact HK.out.at (u := u) (lo := 463) (hi := 480) HF.out (HB1.out) (by unfold DFrame; kernel_rfl)

end Go.Proofs.YthdnkcofcbinhaaGreatDoor
