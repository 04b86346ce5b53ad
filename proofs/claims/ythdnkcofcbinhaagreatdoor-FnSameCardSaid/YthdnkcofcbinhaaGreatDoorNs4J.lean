/- NewSchemaFromObject: a round at another key; the last round; a round; the loop. -/
import Derived.Test.YthdnkcofcbinhaaGreatDoorNs3aJ
import Derived.Test.YthdnkcofcbinhaaGreatDoorNs3bJ
import Derived.Test.YthdnkcofcbinhaaGreatDoorNs3cJ
set_option linter.unusedVariables false
set_option linter.unusedSimpArgs false
namespace Go.Proofs.YthdnkcofcbinhaaGreatDoor
open Go.RowKit

set_option maxRecDepth 1000000 in
set_option maxHeartbeats 8000000 in
theorem round_other (B m n D i j g k nn N c : Nat) (v : Dat) (w wr : World) (u : Nat → Value) (Q0 : Exit → Act → World → Prop) (hi : i < v.keys.length) (hno : ∀ y ∈ kws, 0 < y.2.2 → v.keys[i] ≠ y.1)
    (F : RAt w wr m n i j v g k nn N c v.keys[i]) (I : NInv w B m D v i wr) :
    Code.wp Tryz.prog nsoBody (Exit.then (WJ w B m n D v i j) Q0) (lit n m w.heap.size j u) wr := by
  have HS := Lib.hid (I.skip hi hno)
  obtain ⟨-, j1, j2, j3, n6, k0, k1, k3, -⟩ := F
  generalize v.keys[i] = key at hno k3
  have b0 : (key.toList == ([36, 115, 99, 104, 101, 109, 97] : List UInt8)) = false := list_ne (c := kSSchema) (hno (kSSchema, 1, 1) (by unfold kws; simp) (by decide))
  have b1 : (key.toList == ([105, 100] : List UInt8)) = false := list_ne (c := kId) (hno (kId, 1, 2) (by unfold kws; simp) (by decide))
  have b2 : (key.toList == ([36, 114, 101, 102] : List UInt8)) = false := list_ne (c := kSRef) (hno (kSRef, 1, 3) (by unfold kws; simp) (by decide))
  have b5 : (key.toList == ([109, 117, 108, 116, 105, 112, 108, 101, 79, 102] : List UInt8)) = false := list_ne (c := kMultipleOf) (hno (kMultipleOf, 3, 6) (by unfold kws; simp) (by decide))
  have b6 : (key.toList == ([109, 97, 120, 105, 109, 117, 109] : List UInt8)) = false := list_ne (c := kMaximum) (hno (kMaximum, 3, 7) (by unfold kws; simp) (by decide))
  have b7 : (key.toList == ([101, 120, 99, 108, 117, 115, 105, 118, 101, 77, 97, 120, 105, 109, 117, 109] : List UInt8)) = false := list_ne (c := kExclusiveMaximum) (hno (kExclusiveMaximum, 2, 8) (by unfold kws; simp) (by decide))
  have b8 : (key.toList == ([109, 105, 110, 105, 109, 117, 109] : List UInt8)) = false := list_ne (c := kMinimum) (hno (kMinimum, 3, 9) (by unfold kws; simp) (by decide))
  have b9 : (key.toList == ([101, 120, 99, 108, 117, 115, 105, 118, 101, 77, 105, 110, 105, 109, 117, 109] : List UInt8)) = false := list_ne (c := kExclusiveMinimum) (hno (kExclusiveMinimum, 2, 10) (by unfold kws; simp) (by decide))
  have b10 : (key.toList == ([109, 97, 120, 76, 101, 110, 103, 116, 104] : List UInt8)) = false := list_ne (c := kMaxLength) (hno (kMaxLength, 4, 11) (by unfold kws; simp) (by decide))
  have b11 : (key.toList == ([109, 105, 110, 76, 101, 110, 103, 116, 104] : List UInt8)) = false := list_ne (c := kMinLength) (hno (kMinLength, 4, 12) (by unfold kws; simp) (by decide))
  have b12 : (key.toList == ([112, 97, 116, 116, 101, 114, 110] : List UInt8)) = false := list_ne (c := kPattern) (hno (kPattern, 1, 13) (by unfold kws; simp) (by decide))
  have b13 : (key.toList == ([97, 100, 100, 105, 116, 105, 111, 110, 97, 108, 73, 116, 101, 109, 115] : List UInt8)) = false := list_ne (c := kAdditionalItems) (hno (kAdditionalItems, 6, 14) (by unfold kws; simp) (by decide))
  have b14 : (key.toList == ([105, 116, 101, 109, 115] : List UInt8)) = false := list_ne (c := kItems) (hno (kItems, 7, 15) (by unfold kws; simp) (by decide))
  have b15 : (key.toList == ([109, 97, 120, 73, 116, 101, 109, 115] : List UInt8)) = false := list_ne (c := kMaxItems) (hno (kMaxItems, 4, 16) (by unfold kws; simp) (by decide))
  have b16 : (key.toList == ([109, 105, 110, 73, 116, 101, 109, 115] : List UInt8)) = false := list_ne (c := kMinItems) (hno (kMinItems, 4, 17) (by unfold kws; simp) (by decide))
  have b17 : (key.toList == ([117, 110, 105, 113, 117, 101, 73, 116, 101, 109, 115] : List UInt8)) = false := list_ne (c := kUniqueItems) (hno (kUniqueItems, 2, 18) (by unfold kws; simp) (by decide))
  have b18 : (key.toList == ([109, 97, 120, 80, 114, 111, 112, 101, 114, 116, 105, 101, 115] : List UInt8)) = false := list_ne (c := kMaxProperties) (hno (kMaxProperties, 4, 19) (by unfold kws; simp) (by decide))
  have b19 : (key.toList == ([109, 105, 110, 80, 114, 111, 112, 101, 114, 116, 105, 101, 115] : List UInt8)) = false := list_ne (c := kMinProperties) (hno (kMinProperties, 4, 20) (by unfold kws; simp) (by decide))
  have b20 : (key.toList == ([114, 101, 113, 117, 105, 114, 101, 100] : List UInt8)) = false := list_ne (c := kRequired) (hno (kRequired, 8, 21) (by unfold kws; simp) (by decide))
  have b21 : (key.toList == ([97, 100, 100, 105, 116, 105, 111, 110, 97, 108, 80, 114, 111, 112, 101, 114, 116, 105, 101, 115] : List UInt8)) = false := list_ne (c := kAdditionalProperties) (hno (kAdditionalProperties, 6, 22) (by unfold kws; simp) (by decide))
  have b22 : (key.toList == ([112, 114, 111, 112, 101, 114, 116, 105, 101, 115] : List UInt8)) = false := list_ne (c := kProperties) (hno (kProperties, 9, 23) (by unfold kws; simp) (by decide))
  have b23 : (key.toList == ([112, 97, 116, 116, 101, 114, 110, 80, 114, 111, 112, 101, 114, 116, 105, 101, 115] : List UInt8)) = false := list_ne (c := kPatternProperties) (hno (kPatternProperties, 9, 24) (by unfold kws; simp) (by decide))
  have b24 : (key.toList == ([100, 101, 112, 101, 110, 100, 101, 110, 99, 105, 101, 115] : List UInt8)) = false := list_ne (c := kDependencies) (hno (kDependencies, 10, 25) (by unfold kws; simp) (by decide))
  have b25 : (key.toList == ([101, 110, 117, 109] : List UInt8)) = false := list_ne (c := kEnum) (hno (kEnum, 11, 26) (by unfold kws; simp) (by decide))
  have b26 : (key.toList == ([116, 121, 112, 101] : List UInt8)) = false := list_ne (c := kType) (hno (kType, 12, 27) (by unfold kws; simp) (by decide))
  have b27 : (key.toList == ([97, 108, 108, 79, 102] : List UInt8)) = false := list_ne (c := kAllOf) (hno (kAllOf, 13, 28) (by unfold kws; simp) (by decide))
  have b28 : (key.toList == ([97, 110, 121, 79, 102] : List UInt8)) = false := list_ne (c := kAnyOf) (hno (kAnyOf, 13, 29) (by unfold kws; simp) (by decide))
  have b29 : (key.toList == ([111, 110, 101, 79, 102] : List UInt8)) = false := list_ne (c := kOneOf) (hno (kOneOf, 13, 30) (by unfold kws; simp) (by decide))
  have b30 : (key.toList == ([110, 111, 116] : List UInt8)) = false := list_ne (c := kNot) (hno (kNot, 5, 31) (by unfold kws; simp) (by decide))
  have b31 : (key.toList == ([100, 101, 102, 105, 110, 105, 116, 105, 111, 110, 115] : List UInt8)) = false := list_ne (c := kDefinitions) (hno (kDefinitions, 9, 32) (by unfold kws; simp) (by decide))
  have b32 : (key.toList == ([116, 105, 116, 108, 101] : List UInt8)) = false := list_ne (c := kTitle) (hno (kTitle, 1, 33) (by unfold kws; simp) (by decide))
  have b33 : (key.toList == ([100, 101, 115, 99, 114, 105, 112, 116, 105, 111, 110] : List UInt8)) = false := list_ne (c := kDescription) (hno (kDescription, 1, 34) (by unfold kws; simp) (by decide))
  have b34 : (key.toList == ([100, 101, 102, 97, 117, 108, 116] : List UInt8)) = false := list_ne (c := kDefault) (hno (kDefault, 14, 35) (by unfold kws; simp) (by decide))
  have b35 : (key.toList == ([102, 111, 114, 109, 97, 116] : List UInt8)) = false := list_ne (c := kFormat) (hno (kFormat, 1, 36) (by unfold kws; simp) (by decide))
  clear hno I hi
  dsimp only [lit]
  conv => arg 2; whnf
  go_wp2
  exact ⟨_, rfl, (by unfold FrameAt; kernel_rfl), HS.out⟩

set_option maxRecDepth 1000000 in
set_option maxHeartbeats 8000000 in
theorem round_end (n m p j N c : Nat) (A : Option Addr) (wr : World) (u : Nat → Value) (W : Act → World → Prop) (Q0 : Exit → Act → World → Prop) (j1 : ¬ (j : Int) < (N : Int)) (n6 : wr.cell? ⟨n, 6, none⟩ = some (.slice A N c))
    (hexit : ∀ a, FrameAt n m p j a → Q0 (.exit 1) a wr) : Code.wp Tryz.prog nsoBody (Exit.then W Q0) (lit n m p j u) wr := by
  have HX := Lib.hid hexit
  clear hexit
  dsimp only [lit]
  conv => arg 2; whnf
  go_wp2
  exact HX.out _ (by unfold FrameAt; kernel_rfl)

def slot6 (a : Act) : Int := match (a.tmps[6]? : Option Value) with
  | some (.int _ z) => z
  | _ => 0
theorem slot6_lit (n m p : Nat) (z : Int) (u : Nat → Value) : slot6 (lit n m p z u) = z := by kernel_rfl
def WI (w : World) (B m n D : Nat) (v : Dat) (a : Act) (wr : World) : Prop := ∃ (u : Nat → Value) (i : Nat), i ≤ v.items.length ∧ a = lit n m w.heap.size ((2 * i : Nat) : Int) u ∧ NInv w B m D v i wr
def Wmu (v : Dat) (a : Act) (_ : World) : Nat := (2 * (v.items.length : Int) + 2 - slot6 a).toNat
theorem WJ.up {w : World} {B m n D i : Nat} {v : Dat} {a : Act} {w' wr : World} {u : Nat → Value} (h : WJ w B m n D v i (2 * i) a w') (hi : i < v.items.length) : WI w B m n D v a w' ∧ Wmu v a w' < Wmu v (lit n m w.heap.size ((2 * i : Nat) : Int) u) wr := by
  obtain ⟨z, hz, ha, I⟩ := h
  have e : z = ((2 * (i + 1) : Nat) : Int) := by omega
  subst e
  refine ⟨⟨_, i + 1, by omega, ha, I⟩, ?_⟩
  have e1 : slot6 a = ((2 * (i + 1) : Nat) : Int) := by rw [ha]; exact slot6_lit _ _ _ _ _
  unfold Wmu
  rw [e1, slot6_lit]
  omega
theorem IsShp.fit {v : Dat} (h : IsShp v) {i : Nat} (hi : i < v.keys.length) (hi' : i < v.items.length) : FitN IsShp (shapeN v.keys[i]) v.items[i] := by
  obtain ⟨d, h⟩ := h
  cases d with
  | zero => exact h.elim
  | succ d => exact (h.2 i hi hi').1.mono (fun h => ⟨d, h⟩) (fun j hj h => ⟨d, h⟩)

theorem shapeN_kSSchema : shapeN kSSchema = 1 := by unfold shapeN kws; decide
theorem shapeN_kId : shapeN kId = 1 := by unfold shapeN kws; decide
theorem shapeN_kSRef : shapeN kSRef = 1 := by unfold shapeN kws; decide
theorem shapeN_kMultipleOf : shapeN kMultipleOf = 3 := by unfold shapeN kws; decide
theorem shapeN_kMaximum : shapeN kMaximum = 3 := by unfold shapeN kws; decide
theorem shapeN_kExclusiveMaximum : shapeN kExclusiveMaximum = 2 := by unfold shapeN kws; decide
theorem shapeN_kMinimum : shapeN kMinimum = 3 := by unfold shapeN kws; decide
theorem shapeN_kExclusiveMinimum : shapeN kExclusiveMinimum = 2 := by unfold shapeN kws; decide
theorem shapeN_kMaxLength : shapeN kMaxLength = 4 := by unfold shapeN kws; decide
theorem shapeN_kMinLength : shapeN kMinLength = 4 := by unfold shapeN kws; decide
theorem shapeN_kPattern : shapeN kPattern = 1 := by unfold shapeN kws; decide
theorem shapeN_kAdditionalItems : shapeN kAdditionalItems = 6 := by unfold shapeN kws; decide
theorem shapeN_kItems : shapeN kItems = 7 := by unfold shapeN kws; decide
theorem shapeN_kMaxItems : shapeN kMaxItems = 4 := by unfold shapeN kws; decide
theorem shapeN_kMinItems : shapeN kMinItems = 4 := by unfold shapeN kws; decide
theorem shapeN_kUniqueItems : shapeN kUniqueItems = 2 := by unfold shapeN kws; decide
theorem shapeN_kMaxProperties : shapeN kMaxProperties = 4 := by unfold shapeN kws; decide
theorem shapeN_kMinProperties : shapeN kMinProperties = 4 := by unfold shapeN kws; decide
theorem shapeN_kRequired : shapeN kRequired = 8 := by unfold shapeN kws; decide
theorem shapeN_kAdditionalProperties : shapeN kAdditionalProperties = 6 := by unfold shapeN kws; decide
theorem shapeN_kProperties : shapeN kProperties = 9 := by unfold shapeN kws; decide
theorem shapeN_kPatternProperties : shapeN kPatternProperties = 9 := by unfold shapeN kws; decide
theorem shapeN_kDependencies : shapeN kDependencies = 10 := by unfold shapeN kws; decide
theorem shapeN_kEnum : shapeN kEnum = 11 := by unfold shapeN kws; decide
theorem shapeN_kType : shapeN kType = 12 := by unfold shapeN kws; decide
theorem shapeN_kAllOf : shapeN kAllOf = 13 := by unfold shapeN kws; decide
theorem shapeN_kAnyOf : shapeN kAnyOf = 13 := by unfold shapeN kws; decide
theorem shapeN_kOneOf : shapeN kOneOf = 13 := by unfold shapeN kws; decide
theorem shapeN_kNot : shapeN kNot = 5 := by unfold shapeN kws; decide
theorem shapeN_kDefinitions : shapeN kDefinitions = 9 := by unfold shapeN kws; decide
theorem shapeN_kTitle : shapeN kTitle = 1 := by unfold shapeN kws; decide
theorem shapeN_kDescription : shapeN kDescription = 1 := by unfold shapeN kws; decide
theorem shapeN_kDefault : shapeN kDefault = 14 := by unfold shapeN kws; decide
theorem shapeN_kFormat : shapeN kFormat = 1 := by unfold shapeN kws; decide

theorem nso_round (B m n E c : Nat) (A : Option Addr) (v : Dat) (w : World) (hB : B ≤ w.heap.size) (hmB : m < B) (ih : ∀ D, D < E + 1 → ReadsSchema B m D) (hp : Plain (E + 1) v) (hsh : IsShp v) (O : Obj5 B m (E + 1) n v w A c) (Q0 : Exit → Act → World → Prop)
    (hexit : ∀ a wr, FrameAt n m w.heap.size ((2 * v.items.length : Nat) : Int) a → NInv w B m (E + 1) v v.items.length wr → Q0 (.exit 1) a wr) (a : Act) (wr : World) (hI : WI w B m n (E + 1) v a wr) :
    Code.wp Tryz.prog nsoBody (Exit.then (fun a' w' => WI w B m n (E + 1) v a' w' ∧ Wmu v a' w' < Wmu v a wr) Q0) a wr := by
  obtain ⟨u, i, hi, rfl, I⟩ := hI
  have hz := I.size
  have n6 : wr.cell? ⟨n, 6, none⟩ = some (.slice A (2 * v.items.length : Nat) c) := (blk_cell (grown_blk I.grown O.sn.2 O.hh) 6).trans rfl
  rcases Nat.lt_or_ge i v.items.length with hlt | hge
  rotate_left
  · obtain rfl : i = v.items.length := by omega
    exact round_end n m w.heap.size (2 * v.items.length) (2 * v.items.length) c A wr u _ Q0 (by omega) n6 (fun a ha => hexit a wr ha I)
  · have hik : i < v.keys.length := by rw [O.hkl]; exact hlt
    obtain ⟨g, k, nn, rfl, hSg, hc0, hc1, hSk, hkk, hkid⟩ := O.kid i hlt hik
    have h60 := hp.few
    obtain ⟨cs, hcs, -, hcs0, -⟩ := I.cells
    have q0 : wr.cell? ⟨w.heap.size, 0, none⟩ = some (.map (some m)) := (blk_cell hcs 0).trans hcs0
    have F : RAt w wr m n i (2 * i) v g k nn (2 * v.items.length) c v.keys[i] := ⟨rfl, by omega, by omega, by omega, n6, grown_cell I.grown hSg.2 hc0, grown_cell I.grown hSg.2 hc1, (blk_cell (grown_blk I.grown hSk.2 hkk) 3).trans rfl, q0⟩
    obtain ⟨E', hE', hpE⟩ := hp.item hlt
    obtain rfl : E' = E := by omega
    have K : Kid B m E' w.heap.size nn v.items[i] wr := ⟨by omega, hmB, ih, hpE, hkid.grown I.grown hB, I.map, by omega, q0⟩
    have hfit := hsh.fit hik hlt
    refine Code.wp_mono (Q := Exit.then (WJ w B m n (E' + 1) v i (2 * i)) Q0) (fun e a1 w1 h => ?_) ?_
    · cases e with
      | normal => exact WJ.up h hlt
      | _ => exact h
    by_cases h0 : v.keys[i] = kSSchema
    · rw [h0] at F hfit
      exact round_kSSchema B m n E' i (2 * i) g k nn _ c v w wr u Q0 hB hmB hik hlt h0 (shapeN_kSSchema ▸ hfit) F I K
    by_cases h1 : v.keys[i] = kId
    · rw [h1] at F hfit
      exact round_kId B m n E' i (2 * i) g k nn _ c v w wr u Q0 hB hmB hik hlt h1 (shapeN_kId ▸ hfit) F I K
    by_cases h2 : v.keys[i] = kSRef
    · rw [h2] at F hfit
      exact round_kSRef B m n E' i (2 * i) g k nn _ c v w wr u Q0 hB hmB hik hlt h2 (shapeN_kSRef ▸ hfit) F I K
    by_cases h5 : v.keys[i] = kMultipleOf
    · rw [h5] at F hfit
      exact round_kMultipleOf B m n E' i (2 * i) g k nn _ c v w wr u Q0 hB hmB hik hlt h5 (shapeN_kMultipleOf ▸ hfit) F I K
    by_cases h6 : v.keys[i] = kMaximum
    · rw [h6] at F hfit
      exact round_kMaximum B m n E' i (2 * i) g k nn _ c v w wr u Q0 hB hmB hik hlt h6 (shapeN_kMaximum ▸ hfit) F I K
    by_cases h7 : v.keys[i] = kExclusiveMaximum
    · rw [h7] at F hfit
      exact round_kExclusiveMaximum B m n E' i (2 * i) g k nn _ c v w wr u Q0 hB hmB hik hlt h7 (shapeN_kExclusiveMaximum ▸ hfit) F I K
    by_cases h8 : v.keys[i] = kMinimum
    · rw [h8] at F hfit
      exact round_kMinimum B m n E' i (2 * i) g k nn _ c v w wr u Q0 hB hmB hik hlt h8 (shapeN_kMinimum ▸ hfit) F I K
    by_cases h9 : v.keys[i] = kExclusiveMinimum
    · rw [h9] at F hfit
      exact round_kExclusiveMinimum B m n E' i (2 * i) g k nn _ c v w wr u Q0 hB hmB hik hlt h9 (shapeN_kExclusiveMinimum ▸ hfit) F I K
    by_cases h10 : v.keys[i] = kMaxLength
    · rw [h10] at F hfit
      exact round_kMaxLength B m n E' i (2 * i) g k nn _ c v w wr u Q0 hB hmB hik hlt h10 (shapeN_kMaxLength ▸ hfit) F I K
    by_cases h11 : v.keys[i] = kMinLength
    · rw [h11] at F hfit
      exact round_kMinLength B m n E' i (2 * i) g k nn _ c v w wr u Q0 hB hmB hik hlt h11 (shapeN_kMinLength ▸ hfit) F I K
    by_cases h12 : v.keys[i] = kPattern
    · rw [h12] at F hfit
      exact round_kPattern B m n E' i (2 * i) g k nn _ c v w wr u Q0 hB hmB hik hlt h12 (shapeN_kPattern ▸ hfit) F I K
    by_cases h13 : v.keys[i] = kAdditionalItems
    · rw [h13] at F hfit
      exact round_kAdditionalItems B m n E' i (2 * i) g k nn _ c v w wr u Q0 hB hmB hik hlt h13 (shapeN_kAdditionalItems ▸ hfit) F I K
    by_cases h14 : v.keys[i] = kItems
    · rw [h14] at F hfit
      exact round_kItems B m n E' i (2 * i) g k nn _ c v w wr u Q0 hB hmB hik hlt h14 (shapeN_kItems ▸ hfit) F I K
    by_cases h15 : v.keys[i] = kMaxItems
    · rw [h15] at F hfit
      exact round_kMaxItems B m n E' i (2 * i) g k nn _ c v w wr u Q0 hB hmB hik hlt h15 (shapeN_kMaxItems ▸ hfit) F I K
    by_cases h16 : v.keys[i] = kMinItems
    · rw [h16] at F hfit
      exact round_kMinItems B m n E' i (2 * i) g k nn _ c v w wr u Q0 hB hmB hik hlt h16 (shapeN_kMinItems ▸ hfit) F I K
    by_cases h17 : v.keys[i] = kUniqueItems
    · rw [h17] at F hfit
      exact round_kUniqueItems B m n E' i (2 * i) g k nn _ c v w wr u Q0 hB hmB hik hlt h17 (shapeN_kUniqueItems ▸ hfit) F I K
    by_cases h18 : v.keys[i] = kMaxProperties
    · rw [h18] at F hfit
      exact round_kMaxProperties B m n E' i (2 * i) g k nn _ c v w wr u Q0 hB hmB hik hlt h18 (shapeN_kMaxProperties ▸ hfit) F I K
    by_cases h19 : v.keys[i] = kMinProperties
    · rw [h19] at F hfit
      exact round_kMinProperties B m n E' i (2 * i) g k nn _ c v w wr u Q0 hB hmB hik hlt h19 (shapeN_kMinProperties ▸ hfit) F I K
    by_cases h20 : v.keys[i] = kRequired
    · rw [h20] at F hfit
      exact round_kRequired B m n E' i (2 * i) g k nn _ c v w wr u Q0 hB hmB hik hlt h20 (shapeN_kRequired ▸ hfit) F I K
    by_cases h21 : v.keys[i] = kAdditionalProperties
    · rw [h21] at F hfit
      exact round_kAdditionalProperties B m n E' i (2 * i) g k nn _ c v w wr u Q0 hB hmB hik hlt h21 (shapeN_kAdditionalProperties ▸ hfit) F I K
    by_cases h22 : v.keys[i] = kProperties
    · rw [h22] at F hfit
      exact round_kProperties B m n E' i (2 * i) g k nn _ c v w wr u Q0 hB hmB hik hlt h22 (shapeN_kProperties ▸ hfit) F I K
    by_cases h23 : v.keys[i] = kPatternProperties
    · rw [h23] at F hfit
      exact round_kPatternProperties B m n E' i (2 * i) g k nn _ c v w wr u Q0 hB hmB hik hlt h23 (shapeN_kPatternProperties ▸ hfit) F I K
    by_cases h24 : v.keys[i] = kDependencies
    · rw [h24] at F hfit
      exact round_kDependencies B m n E' i (2 * i) g k nn _ c v w wr u Q0 hB hmB hik hlt h24 (shapeN_kDependencies ▸ hfit) F I K
    by_cases h25 : v.keys[i] = kEnum
    · rw [h25] at F hfit
      exact round_kEnum B m n E' i (2 * i) g k nn _ c v w wr u Q0 hB hmB hik hlt h25 (shapeN_kEnum ▸ hfit) F I K
    by_cases h26 : v.keys[i] = kType
    · rw [h26] at F hfit
      exact round_kType B m n E' i (2 * i) g k nn _ c v w wr u Q0 hB hmB hik hlt h26 (shapeN_kType ▸ hfit) F I K
    by_cases h27 : v.keys[i] = kAllOf
    · rw [h27] at F hfit
      exact round_kAllOf B m n E' i (2 * i) g k nn _ c v w wr u Q0 hB hmB hik hlt h27 (shapeN_kAllOf ▸ hfit) F I K
    by_cases h28 : v.keys[i] = kAnyOf
    · rw [h28] at F hfit
      exact round_kAnyOf B m n E' i (2 * i) g k nn _ c v w wr u Q0 hB hmB hik hlt h28 (shapeN_kAnyOf ▸ hfit) F I K
    by_cases h29 : v.keys[i] = kOneOf
    · rw [h29] at F hfit
      exact round_kOneOf B m n E' i (2 * i) g k nn _ c v w wr u Q0 hB hmB hik hlt h29 (shapeN_kOneOf ▸ hfit) F I K
    by_cases h30 : v.keys[i] = kNot
    · rw [h30] at F hfit
      exact round_kNot B m n E' i (2 * i) g k nn _ c v w wr u Q0 hB hmB hik hlt h30 (shapeN_kNot ▸ hfit) F I K
    by_cases h31 : v.keys[i] = kDefinitions
    · rw [h31] at F hfit
      exact round_kDefinitions B m n E' i (2 * i) g k nn _ c v w wr u Q0 hB hmB hik hlt h31 (shapeN_kDefinitions ▸ hfit) F I K
    by_cases h32 : v.keys[i] = kTitle
    · rw [h32] at F hfit
      exact round_kTitle B m n E' i (2 * i) g k nn _ c v w wr u Q0 hB hmB hik hlt h32 (shapeN_kTitle ▸ hfit) F I K
    by_cases h33 : v.keys[i] = kDescription
    · rw [h33] at F hfit
      exact round_kDescription B m n E' i (2 * i) g k nn _ c v w wr u Q0 hB hmB hik hlt h33 (shapeN_kDescription ▸ hfit) F I K
    by_cases h34 : v.keys[i] = kDefault
    · rw [h34] at F hfit
      exact round_kDefault B m n E' i (2 * i) g k nn _ c v w wr u Q0 hB hmB hik hlt h34 (shapeN_kDefault ▸ hfit) F I K
    by_cases h35 : v.keys[i] = kFormat
    · rw [h35] at F hfit
      exact round_kFormat B m n E' i (2 * i) g k nn _ c v w wr u Q0 hB hmB hik hlt h35 (shapeN_kFormat ▸ hfit) F I K
    refine round_other B m n (E' + 1) i (2 * i) g k nn _ c v w wr u Q0 hik (by
      unfold kws
      simp only [List.forall_mem_cons]
      exact ⟨fun _ => h0, fun _ => h1, fun _ => h2, fun h => absurd h (by decide), fun h => absurd h (by decide), fun _ => h5, fun _ => h6, fun _ => h7, fun _ => h8, fun _ => h9, fun _ => h10, fun _ => h11, fun _ => h12, fun _ => h13, fun _ => h14, fun _ => h15, fun _ => h16, fun _ => h17, fun _ => h18, fun _ => h19, fun _ => h20, fun _ => h21, fun _ => h22, fun _ => h23, fun _ => h24, fun _ => h25, fun _ => h26, fun _ => h27, fun _ => h28, fun _ => h29, fun _ => h30, fun _ => h31, fun _ => h32, fun _ => h33, fun _ => h34, fun _ => h35, fun x hx => by cases hx⟩) F I

theorem nso_loop (B m n E c : Nat) (A : Option Addr) (v : Dat) (w : World) (hB : B ≤ w.heap.size) (hmB : m < B) (ih : ∀ D, D < E + 1 → ReadsSchema B m D) (hp : Plain (E + 1) v) (hsh : IsShp v) (O : Obj5 B m (E + 1) n v w A c) (Q0 : Exit → Act → World → Prop)
    (hexit : ∀ a wr, FrameAt n m w.heap.size ((2 * v.items.length : Nat) : Int) a → NInv w B m (E + 1) v v.items.length wr → Q0 (.exit 1) a wr) (u : Nat → Value) (wr : World) (h0 : NInv w B m (E + 1) v 0 wr) :
    (Code.loop nsoBody).wp Tryz.prog Q0 (lit n m w.heap.size 0 u) wr :=
  wp_loop (WI w B m n (E + 1) v) (Wmu v) ⟨u, 0, by omega, rfl, h0⟩ (fun a wr hI => nso_round B m n E c A v w hB hmB ih hp hsh O Q0 hexit a wr hI)
end Go.Proofs.YthdnkcofcbinhaaGreatDoor
