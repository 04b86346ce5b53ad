/- The reference's shapeOf: what a keyword has. -/
import Derived.Test.YthdnkcofcbinhaaGreatDoorKwJ
import Derived.Test.YthdnkcofcbinhaaGreatDoorValJ
set_option linter.unusedVariables false
set_option linter.unusedSimpArgs false
namespace Go.Proofs.YthdnkcofcbinhaaGreatDoor
open Go.RowKit

theorem list_ne {k c : ByteArray} (h : k ≠ c) : (k.toList == c.data.toList) = false := by
  cases hb : k.toList == c.data.toList
  · rfl
  · exfalso
    apply h
    apply bytes_eq
    rw [ByteArray.toList_eq (bs := c)]
    exact hb
theorem shapeIn_none {k : ByteArray} : ∀ (l : List (ByteArray × Nat × Nat)), (∀ x ∈ l, k ≠ x.1) → shapeIn k l = 0
  | [], _ => rfl
  | x :: r, h => by
    unfold shapeIn
    rw [if_neg (h x (List.mem_cons_self ..))]
    exact shapeIn_none r (fun y hy => h y (List.mem_cons_of_mem _ hy))
def GivesShape (k : ByteArray) (w : World) (e : Ending) (w' : World) : Prop := e = .returned (.int .i64 (shapeN k : Nat)) ∧ w = w'
theorem shapeOf_kSSchema (w : World) : Calls Tryz.prog 16 #[.string kSSchema] w (GivesShape kSSchema w) := by
  unfold kSSchema
  go_enter Tryz.func16, Tryz.ntmps16
  go_wp2
  go_ret
  exact ⟨rfl, rfl⟩
theorem shapeOf_kId (w : World) : Calls Tryz.prog 16 #[.string kId] w (GivesShape kId w) := by
  unfold kId
  go_enter Tryz.func16, Tryz.ntmps16
  go_wp2
  go_ret
  exact ⟨rfl, rfl⟩
theorem shapeOf_kSRef (w : World) : Calls Tryz.prog 16 #[.string kSRef] w (GivesShape kSRef w) := by
  unfold kSRef
  go_enter Tryz.func16, Tryz.ntmps16
  go_wp2
  go_ret
  exact ⟨rfl, rfl⟩
theorem shapeOf_kReadOnly (w : World) : Calls Tryz.prog 16 #[.string kReadOnly] w (GivesShape kReadOnly w) := by
  unfold kReadOnly
  go_enter Tryz.func16, Tryz.ntmps16
  go_wp2
  go_ret
  exact ⟨rfl, rfl⟩
theorem shapeOf_kWriteOnly (w : World) : Calls Tryz.prog 16 #[.string kWriteOnly] w (GivesShape kWriteOnly w) := by
  unfold kWriteOnly
  go_enter Tryz.func16, Tryz.ntmps16
  go_wp2
  go_ret
  exact ⟨rfl, rfl⟩
theorem shapeOf_kMultipleOf (w : World) : Calls Tryz.prog 16 #[.string kMultipleOf] w (GivesShape kMultipleOf w) := by
  unfold kMultipleOf
  go_enter Tryz.func16, Tryz.ntmps16
  go_wp2
  go_ret
  exact ⟨rfl, rfl⟩
theorem shapeOf_kMaximum (w : World) : Calls Tryz.prog 16 #[.string kMaximum] w (GivesShape kMaximum w) := by
  unfold kMaximum
  go_enter Tryz.func16, Tryz.ntmps16
  go_wp2
  go_ret
  exact ⟨rfl, rfl⟩
theorem shapeOf_kExclusiveMaximum (w : World) : Calls Tryz.prog 16 #[.string kExclusiveMaximum] w (GivesShape kExclusiveMaximum w) := by
  unfold kExclusiveMaximum
  go_enter Tryz.func16, Tryz.ntmps16
  go_wp2
  go_ret
  exact ⟨rfl, rfl⟩
theorem shapeOf_kMinimum (w : World) : Calls Tryz.prog 16 #[.string kMinimum] w (GivesShape kMinimum w) := by
  unfold kMinimum
  go_enter Tryz.func16, Tryz.ntmps16
  go_wp2
  go_ret
  exact ⟨rfl, rfl⟩
theorem shapeOf_kExclusiveMinimum (w : World) : Calls Tryz.prog 16 #[.string kExclusiveMinimum] w (GivesShape kExclusiveMinimum w) := by
  unfold kExclusiveMinimum
  go_enter Tryz.func16, Tryz.ntmps16
  go_wp2
  go_ret
  exact ⟨rfl, rfl⟩
theorem shapeOf_kMaxLength (w : World) : Calls Tryz.prog 16 #[.string kMaxLength] w (GivesShape kMaxLength w) := by
  unfold kMaxLength
  go_enter Tryz.func16, Tryz.ntmps16
  go_wp2
  go_ret
  exact ⟨rfl, rfl⟩
theorem shapeOf_kMinLength (w : World) : Calls Tryz.prog 16 #[.string kMinLength] w (GivesShape kMinLength w) := by
  unfold kMinLength
  go_enter Tryz.func16, Tryz.ntmps16
  go_wp2
  go_ret
  exact ⟨rfl, rfl⟩
theorem shapeOf_kPattern (w : World) : Calls Tryz.prog 16 #[.string kPattern] w (GivesShape kPattern w) := by
  unfold kPattern
  go_enter Tryz.func16, Tryz.ntmps16
  go_wp2
  go_ret
  exact ⟨rfl, rfl⟩
theorem shapeOf_kAdditionalItems (w : World) : Calls Tryz.prog 16 #[.string kAdditionalItems] w (GivesShape kAdditionalItems w) := by
  unfold kAdditionalItems
  go_enter Tryz.func16, Tryz.ntmps16
  go_wp2
  go_ret
  exact ⟨rfl, rfl⟩
theorem shapeOf_kItems (w : World) : Calls Tryz.prog 16 #[.string kItems] w (GivesShape kItems w) := by
  unfold kItems
  go_enter Tryz.func16, Tryz.ntmps16
  go_wp2
  go_ret
  exact ⟨rfl, rfl⟩
theorem shapeOf_kMaxItems (w : World) : Calls Tryz.prog 16 #[.string kMaxItems] w (GivesShape kMaxItems w) := by
  unfold kMaxItems
  go_enter Tryz.func16, Tryz.ntmps16
  go_wp2
  go_ret
  exact ⟨rfl, rfl⟩
theorem shapeOf_kMinItems (w : World) : Calls Tryz.prog 16 #[.string kMinItems] w (GivesShape kMinItems w) := by
  unfold kMinItems
  go_enter Tryz.func16, Tryz.ntmps16
  go_wp2
  go_ret
  exact ⟨rfl, rfl⟩
theorem shapeOf_kUniqueItems (w : World) : Calls Tryz.prog 16 #[.string kUniqueItems] w (GivesShape kUniqueItems w) := by
  unfold kUniqueItems
  go_enter Tryz.func16, Tryz.ntmps16
  go_wp2
  go_ret
  exact ⟨rfl, rfl⟩
theorem shapeOf_kMaxProperties (w : World) : Calls Tryz.prog 16 #[.string kMaxProperties] w (GivesShape kMaxProperties w) := by
  unfold kMaxProperties
  go_enter Tryz.func16, Tryz.ntmps16
  go_wp2
  go_ret
  exact ⟨rfl, rfl⟩
theorem shapeOf_kMinProperties (w : World) : Calls Tryz.prog 16 #[.string kMinProperties] w (GivesShape kMinProperties w) := by
  unfold kMinProperties
  go_enter Tryz.func16, Tryz.ntmps16
  go_wp2
  go_ret
  exact ⟨rfl, rfl⟩
theorem shapeOf_kRequired (w : World) : Calls Tryz.prog 16 #[.string kRequired] w (GivesShape kRequired w) := by
  unfold kRequired
  go_enter Tryz.func16, Tryz.ntmps16
  go_wp2
  go_ret
  exact ⟨rfl, rfl⟩
theorem shapeOf_kAdditionalProperties (w : World) : Calls Tryz.prog 16 #[.string kAdditionalProperties] w (GivesShape kAdditionalProperties w) := by
  unfold kAdditionalProperties
  go_enter Tryz.func16, Tryz.ntmps16
  go_wp2
  go_ret
  exact ⟨rfl, rfl⟩
theorem shapeOf_kProperties (w : World) : Calls Tryz.prog 16 #[.string kProperties] w (GivesShape kProperties w) := by
  unfold kProperties
  go_enter Tryz.func16, Tryz.ntmps16
  go_wp2
  go_ret
  exact ⟨rfl, rfl⟩
theorem shapeOf_kPatternProperties (w : World) : Calls Tryz.prog 16 #[.string kPatternProperties] w (GivesShape kPatternProperties w) := by
  unfold kPatternProperties
  go_enter Tryz.func16, Tryz.ntmps16
  go_wp2
  go_ret
  exact ⟨rfl, rfl⟩
theorem shapeOf_kDependencies (w : World) : Calls Tryz.prog 16 #[.string kDependencies] w (GivesShape kDependencies w) := by
  unfold kDependencies
  go_enter Tryz.func16, Tryz.ntmps16
  go_wp2
  go_ret
  exact ⟨rfl, rfl⟩
theorem shapeOf_kEnum (w : World) : Calls Tryz.prog 16 #[.string kEnum] w (GivesShape kEnum w) := by
  unfold kEnum
  go_enter Tryz.func16, Tryz.ntmps16
  go_wp2
  go_ret
  exact ⟨rfl, rfl⟩
theorem shapeOf_kType (w : World) : Calls Tryz.prog 16 #[.string kType] w (GivesShape kType w) := by
  unfold kType
  go_enter Tryz.func16, Tryz.ntmps16
  go_wp2
  go_ret
  exact ⟨rfl, rfl⟩
theorem shapeOf_kAllOf (w : World) : Calls Tryz.prog 16 #[.string kAllOf] w (GivesShape kAllOf w) := by
  unfold kAllOf
  go_enter Tryz.func16, Tryz.ntmps16
  go_wp2
  go_ret
  exact ⟨rfl, rfl⟩
theorem shapeOf_kAnyOf (w : World) : Calls Tryz.prog 16 #[.string kAnyOf] w (GivesShape kAnyOf w) := by
  unfold kAnyOf
  go_enter Tryz.func16, Tryz.ntmps16
  go_wp2
  go_ret
  exact ⟨rfl, rfl⟩
theorem shapeOf_kOneOf (w : World) : Calls Tryz.prog 16 #[.string kOneOf] w (GivesShape kOneOf w) := by
  unfold kOneOf
  go_enter Tryz.func16, Tryz.ntmps16
  go_wp2
  go_ret
  exact ⟨rfl, rfl⟩
theorem shapeOf_kNot (w : World) : Calls Tryz.prog 16 #[.string kNot] w (GivesShape kNot w) := by
  unfold kNot
  go_enter Tryz.func16, Tryz.ntmps16
  go_wp2
  go_ret
  exact ⟨rfl, rfl⟩
theorem shapeOf_kDefinitions (w : World) : Calls Tryz.prog 16 #[.string kDefinitions] w (GivesShape kDefinitions w) := by
  unfold kDefinitions
  go_enter Tryz.func16, Tryz.ntmps16
  go_wp2
  go_ret
  exact ⟨rfl, rfl⟩
theorem shapeOf_kTitle (w : World) : Calls Tryz.prog 16 #[.string kTitle] w (GivesShape kTitle w) := by
  unfold kTitle
  go_enter Tryz.func16, Tryz.ntmps16
  go_wp2
  go_ret
  exact ⟨rfl, rfl⟩
theorem shapeOf_kDescription (w : World) : Calls Tryz.prog 16 #[.string kDescription] w (GivesShape kDescription w) := by
  unfold kDescription
  go_enter Tryz.func16, Tryz.ntmps16
  go_wp2
  go_ret
  exact ⟨rfl, rfl⟩
theorem shapeOf_kDefault (w : World) : Calls Tryz.prog 16 #[.string kDefault] w (GivesShape kDefault w) := by
  unfold kDefault
  go_enter Tryz.func16, Tryz.ntmps16
  go_wp2
  go_ret
  exact ⟨rfl, rfl⟩
theorem shapeOf_kFormat (w : World) : Calls Tryz.prog 16 #[.string kFormat] w (GivesShape kFormat w) := by
  unfold kFormat
  go_enter Tryz.func16, Tryz.ntmps16
  go_wp2
  go_ret
  exact ⟨rfl, rfl⟩
set_option maxRecDepth 100000 in
set_option maxHeartbeats 4000000 in
theorem shapeOf_other (k : ByteArray) (w : World) (h : ∀ x ∈ kws, k ≠ x.1) : Calls Tryz.prog 16 #[.string k] w (GivesShape k w) := by
  have h0 : Hid (shapeN k = 0) := Lib.hid (shapeIn_none kws h)
  have b0 : (k.toList == ([36, 115, 99, 104, 101, 109, 97] : List UInt8)) = false := list_ne (c := kSSchema) (h (kSSchema, 1, 1) (by unfold kws; simp))
  have b1 : (k.toList == ([105, 100] : List UInt8)) = false := list_ne (c := kId) (h (kId, 1, 2) (by unfold kws; simp))
  have b2 : (k.toList == ([36, 114, 101, 102] : List UInt8)) = false := list_ne (c := kSRef) (h (kSRef, 1, 3) (by unfold kws; simp))
  have b3 : (k.toList == ([114, 101, 97, 100, 79, 110, 108, 121] : List UInt8)) = false := list_ne (c := kReadOnly) (h (kReadOnly, 2, 0) (by unfold kws; simp))
  have b4 : (k.toList == ([119, 114, 105, 116, 101, 79, 110, 108, 121] : List UInt8)) = false := list_ne (c := kWriteOnly) (h (kWriteOnly, 2, 0) (by unfold kws; simp))
  have b5 : (k.toList == ([109, 117, 108, 116, 105, 112, 108, 101, 79, 102] : List UInt8)) = false := list_ne (c := kMultipleOf) (h (kMultipleOf, 3, 6) (by unfold kws; simp))
  have b6 : (k.toList == ([109, 97, 120, 105, 109, 117, 109] : List UInt8)) = false := list_ne (c := kMaximum) (h (kMaximum, 3, 7) (by unfold kws; simp))
  have b7 : (k.toList == ([101, 120, 99, 108, 117, 115, 105, 118, 101, 77, 97, 120, 105, 109, 117, 109] : List UInt8)) = false := list_ne (c := kExclusiveMaximum) (h (kExclusiveMaximum, 2, 8) (by unfold kws; simp))
  have b8 : (k.toList == ([109, 105, 110, 105, 109, 117, 109] : List UInt8)) = false := list_ne (c := kMinimum) (h (kMinimum, 3, 9) (by unfold kws; simp))
  have b9 : (k.toList == ([101, 120, 99, 108, 117, 115, 105, 118, 101, 77, 105, 110, 105, 109, 117, 109] : List UInt8)) = false := list_ne (c := kExclusiveMinimum) (h (kExclusiveMinimum, 2, 10) (by unfold kws; simp))
  have b10 : (k.toList == ([109, 97, 120, 76, 101, 110, 103, 116, 104] : List UInt8)) = false := list_ne (c := kMaxLength) (h (kMaxLength, 4, 11) (by unfold kws; simp))
  have b11 : (k.toList == ([109, 105, 110, 76, 101, 110, 103, 116, 104] : List UInt8)) = false := list_ne (c := kMinLength) (h (kMinLength, 4, 12) (by unfold kws; simp))
  have b12 : (k.toList == ([112, 97, 116, 116, 101, 114, 110] : List UInt8)) = false := list_ne (c := kPattern) (h (kPattern, 1, 13) (by unfold kws; simp))
  have b13 : (k.toList == ([97, 100, 100, 105, 116, 105, 111, 110, 97, 108, 73, 116, 101, 109, 115] : List UInt8)) = false := list_ne (c := kAdditionalItems) (h (kAdditionalItems, 6, 14) (by unfold kws; simp))
  have b14 : (k.toList == ([105, 116, 101, 109, 115] : List UInt8)) = false := list_ne (c := kItems) (h (kItems, 7, 15) (by unfold kws; simp))
  have b15 : (k.toList == ([109, 97, 120, 73, 116, 101, 109, 115] : List UInt8)) = false := list_ne (c := kMaxItems) (h (kMaxItems, 4, 16) (by unfold kws; simp))
  have b16 : (k.toList == ([109, 105, 110, 73, 116, 101, 109, 115] : List UInt8)) = false := list_ne (c := kMinItems) (h (kMinItems, 4, 17) (by unfold kws; simp))
  have b17 : (k.toList == ([117, 110, 105, 113, 117, 101, 73, 116, 101, 109, 115] : List UInt8)) = false := list_ne (c := kUniqueItems) (h (kUniqueItems, 2, 18) (by unfold kws; simp))
  have b18 : (k.toList == ([109, 97, 120, 80, 114, 111, 112, 101, 114, 116, 105, 101, 115] : List UInt8)) = false := list_ne (c := kMaxProperties) (h (kMaxProperties, 4, 19) (by unfold kws; simp))
  have b19 : (k.toList == ([109, 105, 110, 80, 114, 111, 112, 101, 114, 116, 105, 101, 115] : List UInt8)) = false := list_ne (c := kMinProperties) (h (kMinProperties, 4, 20) (by unfold kws; simp))
  have b20 : (k.toList == ([114, 101, 113, 117, 105, 114, 101, 100] : List UInt8)) = false := list_ne (c := kRequired) (h (kRequired, 8, 21) (by unfold kws; simp))
  have b21 : (k.toList == ([97, 100, 100, 105, 116, 105, 111, 110, 97, 108, 80, 114, 111, 112, 101, 114, 116, 105, 101, 115] : List UInt8)) = false := list_ne (c := kAdditionalProperties) (h (kAdditionalProperties, 6, 22) (by unfold kws; simp))
  have b22 : (k.toList == ([112, 114, 111, 112, 101, 114, 116, 105, 101, 115] : List UInt8)) = false := list_ne (c := kProperties) (h (kProperties, 9, 23) (by unfold kws; simp))
  have b23 : (k.toList == ([112, 97, 116, 116, 101, 114, 110, 80, 114, 111, 112, 101, 114, 116, 105, 101, 115] : List UInt8)) = false := list_ne (c := kPatternProperties) (h (kPatternProperties, 9, 24) (by unfold kws; simp))
  have b24 : (k.toList == ([100, 101, 112, 101, 110, 100, 101, 110, 99, 105, 101, 115] : List UInt8)) = false := list_ne (c := kDependencies) (h (kDependencies, 10, 25) (by unfold kws; simp))
  have b25 : (k.toList == ([101, 110, 117, 109] : List UInt8)) = false := list_ne (c := kEnum) (h (kEnum, 11, 26) (by unfold kws; simp))
  have b26 : (k.toList == ([116, 121, 112, 101] : List UInt8)) = false := list_ne (c := kType) (h (kType, 12, 27) (by unfold kws; simp))
  have b27 : (k.toList == ([97, 108, 108, 79, 102] : List UInt8)) = false := list_ne (c := kAllOf) (h (kAllOf, 13, 28) (by unfold kws; simp))
  have b28 : (k.toList == ([97, 110, 121, 79, 102] : List UInt8)) = false := list_ne (c := kAnyOf) (h (kAnyOf, 13, 29) (by unfold kws; simp))
  have b29 : (k.toList == ([111, 110, 101, 79, 102] : List UInt8)) = false := list_ne (c := kOneOf) (h (kOneOf, 13, 30) (by unfold kws; simp))
  have b30 : (k.toList == ([110, 111, 116] : List UInt8)) = false := list_ne (c := kNot) (h (kNot, 5, 31) (by unfold kws; simp))
  have b31 : (k.toList == ([100, 101, 102, 105, 110, 105, 116, 105, 111, 110, 115] : List UInt8)) = false := list_ne (c := kDefinitions) (h (kDefinitions, 9, 32) (by unfold kws; simp))
  have b32 : (k.toList == ([116, 105, 116, 108, 101] : List UInt8)) = false := list_ne (c := kTitle) (h (kTitle, 1, 33) (by unfold kws; simp))
  have b33 : (k.toList == ([100, 101, 115, 99, 114, 105, 112, 116, 105, 111, 110] : List UInt8)) = false := list_ne (c := kDescription) (h (kDescription, 1, 34) (by unfold kws; simp))
  have b34 : (k.toList == ([100, 101, 102, 97, 117, 108, 116] : List UInt8)) = false := list_ne (c := kDefault) (h (kDefault, 14, 35) (by unfold kws; simp))
  have b35 : (k.toList == ([102, 111, 114, 109, 97, 116] : List UInt8)) = false := list_ne (c := kFormat) (h (kFormat, 1, 36) (by unfold kws; simp))
  clear h
  go_enter Tryz.func16, Tryz.ntmps16
  go_wp2
  go_ret
  refine ⟨?_, rfl⟩
  rw [h0.out]
  rfl
theorem shapeOf_any (k : ByteArray) (w : World) : Calls Tryz.prog 16 #[.string k] w (GivesShape k w) := by
  by_cases h0 : k = kSSchema
  · rw [h0]
    exact shapeOf_kSSchema w
  by_cases h1 : k = kId
  · rw [h1]
    exact shapeOf_kId w
  by_cases h2 : k = kSRef
  · rw [h2]
    exact shapeOf_kSRef w
  by_cases h3 : k = kReadOnly
  · rw [h3]
    exact shapeOf_kReadOnly w
  by_cases h4 : k = kWriteOnly
  · rw [h4]
    exact shapeOf_kWriteOnly w
  by_cases h5 : k = kMultipleOf
  · rw [h5]
    exact shapeOf_kMultipleOf w
  by_cases h6 : k = kMaximum
  · rw [h6]
    exact shapeOf_kMaximum w
  by_cases h7 : k = kExclusiveMaximum
  · rw [h7]
    exact shapeOf_kExclusiveMaximum w
  by_cases h8 : k = kMinimum
  · rw [h8]
    exact shapeOf_kMinimum w
  by_cases h9 : k = kExclusiveMinimum
  · rw [h9]
    exact shapeOf_kExclusiveMinimum w
  by_cases h10 : k = kMaxLength
  · rw [h10]
    exact shapeOf_kMaxLength w
  by_cases h11 : k = kMinLength
  · rw [h11]
    exact shapeOf_kMinLength w
  by_cases h12 : k = kPattern
  · rw [h12]
    exact shapeOf_kPattern w
  by_cases h13 : k = kAdditionalItems
  · rw [h13]
    exact shapeOf_kAdditionalItems w
  by_cases h14 : k = kItems
  · rw [h14]
    exact shapeOf_kItems w
  by_cases h15 : k = kMaxItems
  · rw [h15]
    exact shapeOf_kMaxItems w
  by_cases h16 : k = kMinItems
  · rw [h16]
    exact shapeOf_kMinItems w
  by_cases h17 : k = kUniqueItems
  · rw [h17]
    exact shapeOf_kUniqueItems w
  by_cases h18 : k = kMaxProperties
  · rw [h18]
    exact shapeOf_kMaxProperties w
  by_cases h19 : k = kMinProperties
  · rw [h19]
    exact shapeOf_kMinProperties w
  by_cases h20 : k = kRequired
  · rw [h20]
    exact shapeOf_kRequired w
  by_cases h21 : k = kAdditionalProperties
  · rw [h21]
    exact shapeOf_kAdditionalProperties w
  by_cases h22 : k = kProperties
  · rw [h22]
    exact shapeOf_kProperties w
  by_cases h23 : k = kPatternProperties
  · rw [h23]
    exact shapeOf_kPatternProperties w
  by_cases h24 : k = kDependencies
  · rw [h24]
    exact shapeOf_kDependencies w
  by_cases h25 : k = kEnum
  · rw [h25]
    exact shapeOf_kEnum w
  by_cases h26 : k = kType
  · rw [h26]
    exact shapeOf_kType w
  by_cases h27 : k = kAllOf
  · rw [h27]
    exact shapeOf_kAllOf w
  by_cases h28 : k = kAnyOf
  · rw [h28]
    exact shapeOf_kAnyOf w
  by_cases h29 : k = kOneOf
  · rw [h29]
    exact shapeOf_kOneOf w
  by_cases h30 : k = kNot
  · rw [h30]
    exact shapeOf_kNot w
  by_cases h31 : k = kDefinitions
  · rw [h31]
    exact shapeOf_kDefinitions w
  by_cases h32 : k = kTitle
  · rw [h32]
    exact shapeOf_kTitle w
  by_cases h33 : k = kDescription
  · rw [h33]
    exact shapeOf_kDescription w
  by_cases h34 : k = kDefault
  · rw [h34]
    exact shapeOf_kDefault w
  by_cases h35 : k = kFormat
  · rw [h35]
    exact shapeOf_kFormat w
  exact shapeOf_other k w (by
    unfold kws
    simp only [List.forall_mem_cons]
    exact ⟨h0, h1, h2, h3, h4, h5, h6, h7, h8, h9, h10, h11, h12, h13, h14, h15, h16, h17, h18, h19, h20, h21, h22, h23, h24, h25, h26, h27, h28, h29, h30, h31, h32, h33, h34, h35, fun x hx => by cases hx⟩)
end Go.Proofs.YthdnkcofcbinhaaGreatDoor
