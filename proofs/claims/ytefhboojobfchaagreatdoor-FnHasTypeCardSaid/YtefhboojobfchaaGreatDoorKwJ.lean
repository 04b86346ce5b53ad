/- The keywords (no program's steps here). -/
import Derived.WalkKit
set_option linter.unusedVariables false
set_option linter.unusedSimpArgs false
namespace Go.Proofs.YtefhboojobfchaaGreatDoor
def kSSchema : ByteArray := ⟨#[36, 115, 99, 104, 101, 109, 97]⟩
def kId : ByteArray := ⟨#[105, 100]⟩
def kSRef : ByteArray := ⟨#[36, 114, 101, 102]⟩
def kReadOnly : ByteArray := ⟨#[114, 101, 97, 100, 79, 110, 108, 121]⟩
def kWriteOnly : ByteArray := ⟨#[119, 114, 105, 116, 101, 79, 110, 108, 121]⟩
def kMultipleOf : ByteArray := ⟨#[109, 117, 108, 116, 105, 112, 108, 101, 79, 102]⟩
def kMaximum : ByteArray := ⟨#[109, 97, 120, 105, 109, 117, 109]⟩
def kExclusiveMaximum : ByteArray := ⟨#[101, 120, 99, 108, 117, 115, 105, 118, 101, 77, 97, 120, 105, 109, 117, 109]⟩
def kMinimum : ByteArray := ⟨#[109, 105, 110, 105, 109, 117, 109]⟩
def kExclusiveMinimum : ByteArray := ⟨#[101, 120, 99, 108, 117, 115, 105, 118, 101, 77, 105, 110, 105, 109, 117, 109]⟩
def kMaxLength : ByteArray := ⟨#[109, 97, 120, 76, 101, 110, 103, 116, 104]⟩
def kMinLength : ByteArray := ⟨#[109, 105, 110, 76, 101, 110, 103, 116, 104]⟩
def kPattern : ByteArray := ⟨#[112, 97, 116, 116, 101, 114, 110]⟩
def kAdditionalItems : ByteArray := ⟨#[97, 100, 100, 105, 116, 105, 111, 110, 97, 108, 73, 116, 101, 109, 115]⟩
def kItems : ByteArray := ⟨#[105, 116, 101, 109, 115]⟩
def kMaxItems : ByteArray := ⟨#[109, 97, 120, 73, 116, 101, 109, 115]⟩
def kMinItems : ByteArray := ⟨#[109, 105, 110, 73, 116, 101, 109, 115]⟩
def kUniqueItems : ByteArray := ⟨#[117, 110, 105, 113, 117, 101, 73, 116, 101, 109, 115]⟩
def kMaxProperties : ByteArray := ⟨#[109, 97, 120, 80, 114, 111, 112, 101, 114, 116, 105, 101, 115]⟩
def kMinProperties : ByteArray := ⟨#[109, 105, 110, 80, 114, 111, 112, 101, 114, 116, 105, 101, 115]⟩
def kRequired : ByteArray := ⟨#[114, 101, 113, 117, 105, 114, 101, 100]⟩
def kAdditionalProperties : ByteArray := ⟨#[97, 100, 100, 105, 116, 105, 111, 110, 97, 108, 80, 114, 111, 112, 101, 114, 116, 105, 101, 115]⟩
def kProperties : ByteArray := ⟨#[112, 114, 111, 112, 101, 114, 116, 105, 101, 115]⟩
def kPatternProperties : ByteArray := ⟨#[112, 97, 116, 116, 101, 114, 110, 80, 114, 111, 112, 101, 114, 116, 105, 101, 115]⟩
def kDependencies : ByteArray := ⟨#[100, 101, 112, 101, 110, 100, 101, 110, 99, 105, 101, 115]⟩
def kEnum : ByteArray := ⟨#[101, 110, 117, 109]⟩
def kType : ByteArray := ⟨#[116, 121, 112, 101]⟩
def kAllOf : ByteArray := ⟨#[97, 108, 108, 79, 102]⟩
def kAnyOf : ByteArray := ⟨#[97, 110, 121, 79, 102]⟩
def kOneOf : ByteArray := ⟨#[111, 110, 101, 79, 102]⟩
def kNot : ByteArray := ⟨#[110, 111, 116]⟩
def kDefinitions : ByteArray := ⟨#[100, 101, 102, 105, 110, 105, 116, 105, 111, 110, 115]⟩
def kTitle : ByteArray := ⟨#[116, 105, 116, 108, 101]⟩
def kDescription : ByteArray := ⟨#[100, 101, 115, 99, 114, 105, 112, 116, 105, 111, 110]⟩
def kDefault : ByteArray := ⟨#[100, 101, 102, 97, 117, 108, 116]⟩
def kFormat : ByteArray := ⟨#[102, 111, 114, 109, 97, 116]⟩
/-- The keywords: the name, what it has, its field. -/
def kws : List (ByteArray × Nat × Nat) := [(kSSchema, 1, 1), (kId, 1, 2), (kSRef, 1, 3), (kReadOnly, 2, 0), (kWriteOnly, 2, 0), (kMultipleOf, 3, 6), (kMaximum, 3, 7), (kExclusiveMaximum, 2, 8), (kMinimum, 3, 9), (kExclusiveMinimum, 2, 10), (kMaxLength, 4, 11), (kMinLength, 4, 12), (kPattern, 1, 13), (kAdditionalItems, 6, 14), (kItems, 7, 15), (kMaxItems, 4, 16), (kMinItems, 4, 17), (kUniqueItems, 2, 18), (kMaxProperties, 4, 19), (kMinProperties, 4, 20), (kRequired, 8, 21), (kAdditionalProperties, 6, 22), (kProperties, 9, 23), (kPatternProperties, 9, 24), (kDependencies, 10, 25), (kEnum, 11, 26), (kType, 12, 27), (kAllOf, 13, 28), (kAnyOf, 13, 29), (kOneOf, 13, 30), (kNot, 5, 31), (kDefinitions, 9, 32), (kTitle, 1, 33), (kDescription, 1, 34), (kDefault, 14, 35), (kFormat, 1, 36)]
def shapeIn (k : ByteArray) : List (ByteArray × Nat × Nat) → Nat
  | [] => 0
  | x :: r => if k = x.1 then x.2.1 else shapeIn k r
/-- What a keyword has, 0 for other keys. -/
def shapeN (k : ByteArray) : Nat := shapeIn k kws
end Go.Proofs.YtefhboojobfchaaGreatDoor
