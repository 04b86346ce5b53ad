/- describeSchema: sections. -/
import Derived.Test.YthdnkcofcbinhaaGreatDoorDhJ
set_option linter.unusedVariables false
set_option linter.unusedSimpArgs false
namespace Go.Proofs.YthdnkcofcbinhaaGreatDoor
open Go.RowKit

set_option maxRecDepth 1000000 in
set_option maxHeartbeats 8000000 in
theorem sec_SSchema (S : Nat → Prop) (w0 : World) (D : Nat) (Ok : Dat → Prop) (sch o : Option Dat) (b : Nat) (ind r : ByteArray) (rest whole : List UInt8) (u : Nat → Value) (w : World) (K : Act → World → Prop) (Q' : Exit → Act → World → Prop) (f : Value)
    (hb : Below w0.heap.size w0 w) (hf0 : w0.cell? ⟨b, 1, none⟩ = some f) (ho : FieldO S w0 (Sch S w0 D) 1 o f)
    (hF : Fits r (secO (descr D) (bs ind) sch (kSSchema, 1, [36, 115, 99, 104, 101, 109, 97]) o ++ rest) whole) (hW : whole.length ≤ 9223372036854775807) (hK : DK b ind rest whole w K) :
    (dSec 2).wp Tryz.prog (Exit.then K Q') (dlit b ind r u) w := by
  have HK := Lib.hid hK
  have hf := cell_up hb _ _ hf0
  clear hK hf0
  cases o with
  | none =>
    have e : f = .pointer none := ho
    subst e
    have HF := Lib.hid (show Fits r rest whole from hF)
    clear hF ho
    dsimp only [dlit]
    conv => arg 2; whnf
    go_wp2
    exact HK.out.at (u := u) (lo := 41) (hi := 57) HF.out (Below.refl _ _) (by unfold DFrame; kernel_rfl)
  | some x =>
    obtain ⟨bx, ox, rfl, -, hx0⟩ := (show PtrTo S w0 f (.string x.text) from ho)
    have hx := cell_up hb _ _ hx0
    have hF1 : Fits (r ++ (ind ++ ⟨#[36, 115, 99, 104, 101, 109, 97, 58, 32]⟩ ++ x.text ++ ⟨#[10]⟩)) rest whole := hF.app (by simp [secO, secT, bs_app, bs])
    have hs := hF1.size
    simp only [ByteArray.size_append] at hs
    have e0 : (⟨#[36, 115, 99, 104, 101, 109, 97, 58, 32]⟩ : ByteArray).size = 9 := rfl
    have e1 : (⟨#[10]⟩ : ByteArray).size = 1 := rfl
    rw [e0, e1] at hs
    clear e0 e1
    have c0 : ¬ (9223372036854775807 < ind.size + 9) := by omega
    have c1 : ¬ (9223372036854775807 < ind.size + 9 + x.text.size) := by omega
    have c2 : ¬ (9223372036854775807 < ind.size + 9 + x.text.size + 1) := by omega
    have cz : ¬ (9223372036854775807 < r.size + (ind.size + 9 + x.text.size + 1)) := by omega
    have HF := Lib.hid hF1
    clear hF hF1 hs ho
    clear hx0
    dsimp only [dlit]
    conv => arg 2; whnf
    go_wp2
    exact HK.out.at (u := u) (lo := 41) (hi := 57) HF.out (Below.refl _ _) (by unfold DFrame; kernel_rfl)

set_option maxRecDepth 1000000 in
set_option maxHeartbeats 8000000 in
theorem sec_ReadOnly (w0 : World) (b : Nat) (ind r : ByteArray) (rest whole : List UInt8) (u : Nat → Value) (w : World) (K : Act → World → Prop) (Q' : Exit → Act → World → Prop)
    (hb : Below w0.heap.size w0 w) (hf0 : w0.cell? ⟨b, 4, none⟩ = some (.pointer none)) (hF : Fits r rest whole) (hK : DK b ind rest whole w K) :
    (dSec 3).wp Tryz.prog (Exit.then K Q') (dlit b ind r u) w := by
  have HK := Lib.hid hK
  have hf := cell_up hb _ _ hf0
  clear hK hf0
  have HF := Lib.hid hF
  clear hF
  dsimp only [dlit]
  conv => arg 2; whnf
  go_wp2
  exact HK.out.at (u := u) (lo := 58) (hi := 83) HF.out (Below.refl _ _) (by unfold DFrame; kernel_rfl)

set_option maxRecDepth 1000000 in
set_option maxHeartbeats 8000000 in
theorem sec_WriteOnly (w0 : World) (b : Nat) (ind r : ByteArray) (rest whole : List UInt8) (u : Nat → Value) (w : World) (K : Act → World → Prop) (Q' : Exit → Act → World → Prop)
    (hb : Below w0.heap.size w0 w) (hf0 : w0.cell? ⟨b, 5, none⟩ = some (.pointer none)) (hF : Fits r rest whole) (hK : DK b ind rest whole w K) :
    (dSec 4).wp Tryz.prog (Exit.then K Q') (dlit b ind r u) w := by
  have HK := Lib.hid hK
  have hf := cell_up hb _ _ hf0
  clear hK hf0
  have HF := Lib.hid hF
  clear hF
  dsimp only [dlit]
  conv => arg 2; whnf
  go_wp2
  exact HK.out.at (u := u) (lo := 84) (hi := 109) HF.out (Below.refl _ _) (by unfold DFrame; kernel_rfl)

set_option maxRecDepth 1000000 in
set_option maxHeartbeats 8000000 in
theorem sec_MultipleOf (w0 : World) (b : Nat) (ind r : ByteArray) (rest whole : List UInt8) (u : Nat → Value) (w : World) (K : Act → World → Prop) (Q' : Exit → Act → World → Prop)
    (hb : Below w0.heap.size w0 w) (hf0 : w0.cell? ⟨b, 6, none⟩ = some (.pointer none)) (hF : Fits r rest whole) (hK : DK b ind rest whole w K) :
    (dSec 6).wp Tryz.prog (Exit.then K Q') (dlit b ind r u) w := by
  have HK := Lib.hid hK
  have hf := cell_up hb _ _ hf0
  clear hK hf0
  have HF := Lib.hid hF
  clear hF
  dsimp only [dlit]
  conv => arg 2; whnf
  go_wp2
  exact HK.out.at (u := u) (lo := 152) (hi := 167) HF.out (Below.refl _ _) (by unfold DFrame; kernel_rfl)

set_option maxRecDepth 1000000 in
set_option maxHeartbeats 8000000 in
theorem sec_Maximum (w0 : World) (b : Nat) (ind r : ByteArray) (rest whole : List UInt8) (u : Nat → Value) (w : World) (K : Act → World → Prop) (Q' : Exit → Act → World → Prop)
    (hb : Below w0.heap.size w0 w) (hf0 : w0.cell? ⟨b, 7, none⟩ = some (.pointer none)) (hF : Fits r rest whole) (hK : DK b ind rest whole w K) :
    (dSec 7).wp Tryz.prog (Exit.then K Q') (dlit b ind r u) w := by
  have HK := Lib.hid hK
  have hf := cell_up hb _ _ hf0
  clear hK hf0
  have HF := Lib.hid hF
  clear hF
  dsimp only [dlit]
  conv => arg 2; whnf
  go_wp2
  exact HK.out.at (u := u) (lo := 168) (hi := 183) HF.out (Below.refl _ _) (by unfold DFrame; kernel_rfl)

set_option maxRecDepth 1000000 in
set_option maxHeartbeats 8000000 in
theorem sec_Minimum (w0 : World) (b : Nat) (ind r : ByteArray) (rest whole : List UInt8) (u : Nat → Value) (w : World) (K : Act → World → Prop) (Q' : Exit → Act → World → Prop)
    (hb : Below w0.heap.size w0 w) (hf0 : w0.cell? ⟨b, 9, none⟩ = some (.pointer none)) (hF : Fits r rest whole) (hK : DK b ind rest whole w K) :
    (dSec 9).wp Tryz.prog (Exit.then K Q') (dlit b ind r u) w := by
  have HK := Lib.hid hK
  have hf := cell_up hb _ _ hf0
  clear hK hf0
  have HF := Lib.hid hF
  clear hF
  dsimp only [dlit]
  conv => arg 2; whnf
  go_wp2
  exact HK.out.at (u := u) (lo := 202) (hi := 217) HF.out (Below.refl _ _) (by unfold DFrame; kernel_rfl)

set_option maxRecDepth 1000000 in
set_option maxHeartbeats 8000000 in
theorem sec_Pattern (S : Nat → Prop) (w0 : World) (D : Nat) (Ok : Dat → Prop) (sch o : Option Dat) (b : Nat) (ind r : ByteArray) (rest whole : List UInt8) (u : Nat → Value) (w : World) (K : Act → World → Prop) (Q' : Exit → Act → World → Prop) (f : Value)
    (hb : Below w0.heap.size w0 w) (hf0 : w0.cell? ⟨b, 13, none⟩ = some f) (ho : FieldO S w0 (Sch S w0 D) 1 o f)
    (hF : Fits r (secO (descr D) (bs ind) sch (kPattern, 1, [112, 97, 116, 116, 101, 114, 110]) o ++ rest) whole) (hW : whole.length ≤ 9223372036854775807) (hK : DK b ind rest whole w K) :
    (dSec 13).wp Tryz.prog (Exit.then K Q') (dlit b ind r u) w := by
  have HK := Lib.hid hK
  have hf := cell_up hb _ _ hf0
  clear hK hf0
  cases o with
  | none =>
    have e : f = .pointer none := ho
    subst e
    have HF := Lib.hid (show Fits r rest whole from hF)
    clear hF ho
    dsimp only [dlit]
    conv => arg 2; whnf
    go_wp2
    exact HK.out.at (u := u) (lo := 272) (hi := 288) HF.out (Below.refl _ _) (by unfold DFrame; kernel_rfl)
  | some x =>
    obtain ⟨bx, ox, rfl, -, hx0⟩ := (show PtrTo S w0 f (.string x.text) from ho)
    have hx := cell_up hb _ _ hx0
    have hF1 : Fits (r ++ (ind ++ ⟨#[112, 97, 116, 116, 101, 114, 110, 58, 32]⟩ ++ x.text ++ ⟨#[10]⟩)) rest whole := hF.app (by simp [secO, secT, bs_app, bs])
    have hs := hF1.size
    simp only [ByteArray.size_append] at hs
    have e0 : (⟨#[112, 97, 116, 116, 101, 114, 110, 58, 32]⟩ : ByteArray).size = 9 := rfl
    have e1 : (⟨#[10]⟩ : ByteArray).size = 1 := rfl
    rw [e0, e1] at hs
    clear e0 e1
    have c0 : ¬ (9223372036854775807 < ind.size + 9) := by omega
    have c1 : ¬ (9223372036854775807 < ind.size + 9 + x.text.size) := by omega
    have c2 : ¬ (9223372036854775807 < ind.size + 9 + x.text.size + 1) := by omega
    have cz : ¬ (9223372036854775807 < r.size + (ind.size + 9 + x.text.size + 1)) := by omega
    have HF := Lib.hid hF1
    clear hF hF1 hs ho
    clear hx0
    dsimp only [dlit]
    conv => arg 2; whnf
    go_wp2
    exact HK.out.at (u := u) (lo := 272) (hi := 288) HF.out (Below.refl _ _) (by unfold DFrame; kernel_rfl)

set_option maxRecDepth 1000000 in
set_option maxHeartbeats 8000000 in
theorem sec_Title (S : Nat → Prop) (w0 : World) (D : Nat) (Ok : Dat → Prop) (sch o : Option Dat) (b : Nat) (ind r : ByteArray) (rest whole : List UInt8) (u : Nat → Value) (w : World) (K : Act → World → Prop) (Q' : Exit → Act → World → Prop) (f : Value)
    (hb : Below w0.heap.size w0 w) (hf0 : w0.cell? ⟨b, 33, none⟩ = some f) (ho : FieldO S w0 (Sch S w0 D) 1 o f)
    (hF : Fits r (secO (descr D) (bs ind) sch (kTitle, 1, [116, 105, 116, 108, 101]) o ++ rest) whole) (hW : whole.length ≤ 9223372036854775807) (hK : DK b ind rest whole w K) :
    (dSec 33).wp Tryz.prog (Exit.then K Q') (dlit b ind r u) w := by
  have HK := Lib.hid hK
  have hf := cell_up hb _ _ hf0
  clear hK hf0
  cases o with
  | none =>
    have e : f = .pointer none := ho
    subst e
    have HF := Lib.hid (show Fits r rest whole from hF)
    clear hF ho
    dsimp only [dlit]
    conv => arg 2; whnf
    go_wp2
    exact HK.out.at (u := u) (lo := 920) (hi := 936) HF.out (Below.refl _ _) (by unfold DFrame; kernel_rfl)
  | some x =>
    obtain ⟨bx, ox, rfl, -, hx0⟩ := (show PtrTo S w0 f (.string x.text) from ho)
    have hx := cell_up hb _ _ hx0
    have hF1 : Fits (r ++ (ind ++ ⟨#[116, 105, 116, 108, 101, 58, 32]⟩ ++ x.text ++ ⟨#[10]⟩)) rest whole := hF.app (by simp [secO, secT, bs_app, bs])
    have hs := hF1.size
    simp only [ByteArray.size_append] at hs
    have e0 : (⟨#[116, 105, 116, 108, 101, 58, 32]⟩ : ByteArray).size = 7 := rfl
    have e1 : (⟨#[10]⟩ : ByteArray).size = 1 := rfl
    rw [e0, e1] at hs
    clear e0 e1
    have c0 : ¬ (9223372036854775807 < ind.size + 7) := by omega
    have c1 : ¬ (9223372036854775807 < ind.size + 7 + x.text.size) := by omega
    have c2 : ¬ (9223372036854775807 < ind.size + 7 + x.text.size + 1) := by omega
    have cz : ¬ (9223372036854775807 < r.size + (ind.size + 7 + x.text.size + 1)) := by omega
    have HF := Lib.hid hF1
    clear hF hF1 hs ho
    clear hx0
    dsimp only [dlit]
    conv => arg 2; whnf
    go_wp2
    exact HK.out.at (u := u) (lo := 920) (hi := 936) HF.out (Below.refl _ _) (by unfold DFrame; kernel_rfl)

set_option maxRecDepth 1000000 in
set_option maxHeartbeats 8000000 in
theorem sec_Description (S : Nat → Prop) (w0 : World) (D : Nat) (Ok : Dat → Prop) (sch o : Option Dat) (b : Nat) (ind r : ByteArray) (rest whole : List UInt8) (u : Nat → Value) (w : World) (K : Act → World → Prop) (Q' : Exit → Act → World → Prop) (f : Value)
    (hb : Below w0.heap.size w0 w) (hf0 : w0.cell? ⟨b, 34, none⟩ = some f) (ho : FieldO S w0 (Sch S w0 D) 1 o f)
    (hF : Fits r (secO (descr D) (bs ind) sch (kDescription, 1, [100, 101, 115, 99, 114, 105, 112, 116, 105, 111, 110]) o ++ rest) whole) (hW : whole.length ≤ 9223372036854775807) (hK : DK b ind rest whole w K) :
    (dSec 34).wp Tryz.prog (Exit.then K Q') (dlit b ind r u) w := by
  have HK := Lib.hid hK
  have hf := cell_up hb _ _ hf0
  clear hK hf0
  cases o with
  | none =>
    have e : f = .pointer none := ho
    subst e
    have HF := Lib.hid (show Fits r rest whole from hF)
    clear hF ho
    dsimp only [dlit]
    conv => arg 2; whnf
    go_wp2
    exact HK.out.at (u := u) (lo := 937) (hi := 953) HF.out (Below.refl _ _) (by unfold DFrame; kernel_rfl)
  | some x =>
    obtain ⟨bx, ox, rfl, -, hx0⟩ := (show PtrTo S w0 f (.string x.text) from ho)
    have hx := cell_up hb _ _ hx0
    have hF1 : Fits (r ++ (ind ++ ⟨#[100, 101, 115, 99, 114, 105, 112, 116, 105, 111, 110, 58, 32]⟩ ++ x.text ++ ⟨#[10]⟩)) rest whole := hF.app (by simp [secO, secT, bs_app, bs])
    have hs := hF1.size
    simp only [ByteArray.size_append] at hs
    have e0 : (⟨#[100, 101, 115, 99, 114, 105, 112, 116, 105, 111, 110, 58, 32]⟩ : ByteArray).size = 13 := rfl
    have e1 : (⟨#[10]⟩ : ByteArray).size = 1 := rfl
    rw [e0, e1] at hs
    clear e0 e1
    have c0 : ¬ (9223372036854775807 < ind.size + 13) := by omega
    have c1 : ¬ (9223372036854775807 < ind.size + 13 + x.text.size) := by omega
    have c2 : ¬ (9223372036854775807 < ind.size + 13 + x.text.size + 1) := by omega
    have cz : ¬ (9223372036854775807 < r.size + (ind.size + 13 + x.text.size + 1)) := by omega
    have HF := Lib.hid hF1
    clear hF hF1 hs ho
    clear hx0
    dsimp only [dlit]
    conv => arg 2; whnf
    go_wp2
    exact HK.out.at (u := u) (lo := 937) (hi := 953) HF.out (Below.refl _ _) (by unfold DFrame; kernel_rfl)

set_option maxRecDepth 1000000 in
set_option maxHeartbeats 8000000 in
theorem sec_Default (w0 : World) (b : Nat) (ind r : ByteArray) (rest whole : List UInt8) (u : Nat → Value) (w : World) (K : Act → World → Prop) (Q' : Exit → Act → World → Prop)
    (hb : Below w0.heap.size w0 w) (hf0 : w0.cell? ⟨b, 35, none⟩ = some (.pointer none)) (hF : Fits r rest whole) (hK : DK b ind rest whole w K) :
    (dSec 35).wp Tryz.prog (Exit.then K Q') (dlit b ind r u) w := by
  have HK := Lib.hid hK
  have hf := cell_up hb _ _ hf0
  clear hK hf0
  have HF := Lib.hid hF
  clear hF
  dsimp only [dlit]
  conv => arg 2; whnf
  go_wp2
  exact HK.out.at (u := u) (lo := 954) (hi := 973) HF.out (Below.refl _ _) (by unfold DFrame; kernel_rfl)

set_option maxRecDepth 1000000 in
set_option maxHeartbeats 8000000 in
theorem sec_Format (S : Nat → Prop) (w0 : World) (D : Nat) (Ok : Dat → Prop) (sch o : Option Dat) (b : Nat) (ind r : ByteArray) (rest whole : List UInt8) (u : Nat → Value) (w : World) (K : Act → World → Prop) (Q' : Exit → Act → World → Prop) (f : Value)
    (hb : Below w0.heap.size w0 w) (hf0 : w0.cell? ⟨b, 36, none⟩ = some f) (ho : FieldO S w0 (Sch S w0 D) 1 o f)
    (hF : Fits r (secO (descr D) (bs ind) sch (kFormat, 1, [102, 111, 114, 109, 97, 116]) o ++ rest) whole) (hW : whole.length ≤ 9223372036854775807) (hK : DK b ind rest whole w K) :
    (dSec 36).wp Tryz.prog (Exit.then K Q') (dlit b ind r u) w := by
  have HK := Lib.hid hK
  have hf := cell_up hb _ _ hf0
  clear hK hf0
  cases o with
  | none =>
    have e : f = .pointer none := ho
    subst e
    have HF := Lib.hid (show Fits r rest whole from hF)
    clear hF ho
    dsimp only [dlit]
    conv => arg 2; whnf
    go_wp2
    exact HK.out.at (u := u) (lo := 974) (hi := 990) HF.out (Below.refl _ _) (by unfold DFrame; kernel_rfl)
  | some x =>
    obtain ⟨bx, ox, rfl, -, hx0⟩ := (show PtrTo S w0 f (.string x.text) from ho)
    have hx := cell_up hb _ _ hx0
    have hF1 : Fits (r ++ (ind ++ ⟨#[102, 111, 114, 109, 97, 116, 58, 32]⟩ ++ x.text ++ ⟨#[10]⟩)) rest whole := hF.app (by simp [secO, secT, bs_app, bs])
    have hs := hF1.size
    simp only [ByteArray.size_append] at hs
    have e0 : (⟨#[102, 111, 114, 109, 97, 116, 58, 32]⟩ : ByteArray).size = 8 := rfl
    have e1 : (⟨#[10]⟩ : ByteArray).size = 1 := rfl
    rw [e0, e1] at hs
    clear e0 e1
    have c0 : ¬ (9223372036854775807 < ind.size + 8) := by omega
    have c1 : ¬ (9223372036854775807 < ind.size + 8 + x.text.size) := by omega
    have c2 : ¬ (9223372036854775807 < ind.size + 8 + x.text.size + 1) := by omega
    have cz : ¬ (9223372036854775807 < r.size + (ind.size + 8 + x.text.size + 1)) := by omega
    have HF := Lib.hid hF1
    clear hF hF1 hs ho
    clear hx0
    dsimp only [dlit]
    conv => arg 2; whnf
    go_wp2
    exact HK.out.at (u := u) (lo := 974) (hi := 990) HF.out (Below.refl _ _) (by unfold DFrame; kernel_rfl)

set_option maxRecDepth 1000000 in
set_option maxHeartbeats 8000000 in
theorem sec_Ref (S : Nat → Prop) (w0 : World) (D : Nat) (Ok : Dat → Prop) (sch o : Option Dat) (b : Nat) (ind r : ByteArray) (rest whole : List UInt8) (u : Nat → Value) (w : World) (K : Act → World → Prop) (Q' : Exit → Act → World → Prop) (f : Value)
    (hb : Below w0.heap.size w0 w) (hf0 : w0.cell? ⟨b, 3, none⟩ = some f) (ho : FieldO S w0 (Sch S w0 D) 1 o f)
    (hF : Fits r (secO (descr D) (bs ind) sch (kSRef, 1, [36, 114, 101, 102]) o ++ rest) whole) (hW : whole.length ≤ 9223372036854775807) (hK : DK b ind rest whole w K) :
    (dSec 37).wp Tryz.prog (Exit.then K Q') (dlit b ind r u) w := by
  have HK := Lib.hid hK
  have hf := cell_up hb _ _ hf0
  clear hK hf0
  cases o with
  | none =>
    have e : f = .pointer none := ho
    subst e
    have HF := Lib.hid (show Fits r rest whole from hF)
    clear hF ho
    dsimp only [dlit]
    conv => arg 2; whnf
    go_wp2
    exact HK.out.at (u := u) (lo := 991) (hi := 1007) HF.out (Below.refl _ _) (by unfold DFrame; kernel_rfl)
  | some x =>
    obtain ⟨bx, ox, rfl, -, hx0⟩ := (show PtrTo S w0 f (.string x.text) from ho)
    have hx := cell_up hb _ _ hx0
    have hF1 : Fits (r ++ (ind ++ ⟨#[36, 114, 101, 102, 58, 32]⟩ ++ x.text ++ ⟨#[10]⟩)) rest whole := hF.app (by simp [secO, secT, bs_app, bs])
    have hs := hF1.size
    simp only [ByteArray.size_append] at hs
    have e0 : (⟨#[36, 114, 101, 102, 58, 32]⟩ : ByteArray).size = 6 := rfl
    have e1 : (⟨#[10]⟩ : ByteArray).size = 1 := rfl
    rw [e0, e1] at hs
    clear e0 e1
    have c0 : ¬ (9223372036854775807 < ind.size + 6) := by omega
    have c1 : ¬ (9223372036854775807 < ind.size + 6 + x.text.size) := by omega
    have c2 : ¬ (9223372036854775807 < ind.size + 6 + x.text.size + 1) := by omega
    have cz : ¬ (9223372036854775807 < r.size + (ind.size + 6 + x.text.size + 1)) := by omega
    have HF := Lib.hid hF1
    clear hF hF1 hs ho
    clear hx0
    dsimp only [dlit]
    conv => arg 2; whnf
    go_wp2
    exact HK.out.at (u := u) (lo := 991) (hi := 1007) HF.out (Below.refl _ _) (by unfold DFrame; kernel_rfl)

end Go.Proofs.YthdnkcofcbinhaaGreatDoor
