/- The keywords (no program's steps here). -/
import Derived.Test.YthdnkcofcbinhaaGreatDoorGnJ
import Derived.Test.YthdnkcofcbinhaaGreatDoorSp2J
import Derived.WalkKit
import Derived.Lib.Join
import Derived.Lib.Strings
import Derived.Lib.ItoaLen
set_option linter.unusedVariables false
set_option linter.unusedSimpArgs false
namespace Go.Proofs.YthdnkcofcbinhaaGreatDoor
def kSSchema : ByteArray := ⟨#[36, 115, 99, 104, 101, 109, 97]⟩
def kId : ByteArray := ⟨#[105, 100]⟩
def kSRef : ByteArray := ⟨#[36, 114, 101, 102]⟩
def kReadOnly : ByteArray := ⟨#[114, 101, 97, 100, 79, 110, 108, 121]⟩
def kWriteOnly : ByteArray := ⟨#[119, 114, 105, 116, 101, 79, 110, 108, 121]⟩
def kMultipleOf : ByteArray := ⟨#[109, 117, 108, 116, 105, 112, 108, 101, 79, 102]⟩
def kMaximum : ByteArray := ⟨#[109, 97, 120, 105, 109, 117, 109]⟩
def kExclusiveMaximum : ByteArray := ⟨#[101, 120, 99, 108, 117, 115, 105, 118, 101, 77, 97, 120, 105, 109, 117, 109]⟩
def kMinimum : ByteArray := ⟨#[109, 105, 110, 105, 109, 117, 109]⟩
def kExclusiveMinimum : ByteArray := ⟨#[101, 120, 99, 108, 117, 115, 105, 118, 101, 77, 105, 110, 105, 109, 117, 109]⟩
def kMaxLength : ByteArray := ⟨#[109, 97, 120, 76, 101, 110, 103, 116, 104]⟩
def kMinLength : ByteArray := ⟨#[109, 105, 110, 76, 101, 110, 103, 116, 104]⟩
def kPattern : ByteArray := ⟨#[112, 97, 116, 116, 101, 114, 110]⟩
def kAdditionalItems : ByteArray := ⟨#[97, 100, 100, 105, 116, 105, 111, 110, 97, 108, 73, 116, 101, 109, 115]⟩
def kItems : ByteArray := ⟨#[105, 116, 101, 109, 115]⟩
def kMaxItems : ByteArray := ⟨#[109, 97, 120, 73, 116, 101, 109, 115]⟩
def kMinItems : ByteArray := ⟨#[109, 105, 110, 73, 116, 101, 109, 115]⟩
def kUniqueItems : ByteArray := ⟨#[117, 110, 105, 113, 117, 101, 73, 116, 101, 109, 115]⟩
def kMaxProperties : ByteArray := ⟨#[109, 97, 120, 80, 114, 111, 112, 101, 114, 116, 105, 101, 115]⟩
def kMinProperties : ByteArray := ⟨#[109, 105, 110, 80, 114, 111, 112, 101, 114, 116, 105, 101, 115]⟩
def kRequired : ByteArray := ⟨#[114, 101, 113, 117, 105, 114, 101, 100]⟩
def kAdditionalProperties : ByteArray := ⟨#[97, 100, 100, 105, 116, 105, 111, 110, 97, 108, 80, 114, 111, 112, 101, 114, 116, 105, 101, 115]⟩
def kProperties : ByteArray := ⟨#[112, 114, 111, 112, 101, 114, 116, 105, 101, 115]⟩
def kPatternProperties : ByteArray := ⟨#[112, 97, 116, 116, 101, 114, 110, 80, 114, 111, 112, 101, 114, 116, 105, 101, 115]⟩
def kDependencies : ByteArray := ⟨#[100, 101, 112, 101, 110, 100, 101, 110, 99, 105, 101, 115]⟩
def kEnum : ByteArray := ⟨#[101, 110, 117, 109]⟩
def kType : ByteArray := ⟨#[116, 121, 112, 101]⟩
def kAllOf : ByteArray := ⟨#[97, 108, 108, 79, 102]⟩
def kAnyOf : ByteArray := ⟨#[97, 110, 121, 79, 102]⟩
def kOneOf : ByteArray := ⟨#[111, 110, 101, 79, 102]⟩
def kNot : ByteArray := ⟨#[110, 111, 116]⟩
def kDefinitions : ByteArray := ⟨#[100, 101, 102, 105, 110, 105, 116, 105, 111, 110, 115]⟩
def kTitle : ByteArray := ⟨#[116, 105, 116, 108, 101]⟩
def kDescription : ByteArray := ⟨#[100, 101, 115, 99, 114, 105, 112, 116, 105, 111, 110]⟩
def kDefault : ByteArray := ⟨#[100, 101, 102, 97, 117, 108, 116]⟩
def kFormat : ByteArray := ⟨#[102, 111, 114, 109, 97, 116]⟩
/-- The keywords: the name, what it has, its field. -/
def kws : List (ByteArray × Nat × Nat) := [(kSSchema, 1, 1), (kId, 1, 2), (kSRef, 1, 3), (kReadOnly, 2, 0), (kWriteOnly, 2, 0), (kMultipleOf, 3, 6), (kMaximum, 3, 7), (kExclusiveMaximum, 2, 8), (kMinimum, 3, 9), (kExclusiveMinimum, 2, 10), (kMaxLength, 4, 11), (kMinLength, 4, 12), (kPattern, 1, 13), (kAdditionalItems, 6, 14), (kItems, 7, 15), (kMaxItems, 4, 16), (kMinItems, 4, 17), (kUniqueItems, 2, 18), (kMaxProperties, 4, 19), (kMinProperties, 4, 20), (kRequired, 8, 21), (kAdditionalProperties, 6, 22), (kProperties, 9, 23), (kPatternProperties, 9, 24), (kDependencies, 10, 25), (kEnum, 11, 26), (kType, 12, 27), (kAllOf, 13, 28), (kAnyOf, 13, 29), (kOneOf, 13, 30), (kNot, 5, 31), (kDefinitions, 9, 32), (kTitle, 1, 33), (kDescription, 1, 34), (kDefault, 14, 35), (kFormat, 1, 36)]
def shapeIn (k : ByteArray) : List (ByteArray × Nat × Nat) → Nat
  | [] => 0
  | x :: r => if k = x.1 then x.2.1 else shapeIn k r
/-- What a keyword has, 0 for other keys. -/
def shapeN (k : ByteArray) : Nat := shapeIn k kws
end Go.Proofs.YthdnkcofcbinhaaGreatDoor

/- Values that are schemas: the plain words (no program's steps here). -/
namespace Go.Proofs.YthdnkcofcbinhaaGreatDoor
open Go.RowKit

/-- What fits tells of a keyword's value. -/
def FitN (P : Dat → Prop) (code : Nat) (x : Dat) : Prop :=
  match code with
  | 1 => x.kind = 3
  | 2 => x.kind = 1
  | 3 => x.kind = 2 ∨ x.kind = 6
  | 4 => x.kind = 2 ∧ 0 ≤ x.num
  | 5 => P x
  | 6 => x.kind = 1 ∨ P x
  | 7 => P x ∨ (x.kind = 4 ∧ ∀ i (h : i < x.items.length), P x.items[i])
  | 8 => x.kind = 4 ∧ ∀ i (h : i < x.items.length), x.items[i].kind = 3
  | 9 => x.kind = 5 ∧ ∀ i (h : i < x.items.length), P x.items[i]
  | 10 => x.kind = 5 ∧ ∀ i (h : i < x.items.length), x.items[i].kind = 4 ∧ ∀ j (h' : j < x.items[i].items.length), x.items[i].items[j].kind = 3
  | 11 => x.kind = 4 ∧ ∀ i (h : i < x.items.length), x.items[i].kind = 3 ∨ x.items[i].kind = 1
  | 12 => x.kind = 3 ∨ (x.kind = 4 ∧ ∀ i (h : i < x.items.length), x.items[i].kind = 3)
  | 13 => x.kind = 4 ∧ ∀ i (h : i < x.items.length), P x.items[i]
  | _ => True

theorem FitN.mono {P Q : Dat → Prop} {code : Nat} {x : Dat} (hx : P x → Q x) (hi : ∀ i (h : i < x.items.length), P x.items[i] → Q x.items[i]) (h : FitN P code x) : FitN Q code x := by
  unfold FitN at *
  split at h
  · exact h
  · exact h
  · exact h
  · exact h
  · exact hx h
  · exact h.imp id hx
  · exact h.imp hx (fun h => ⟨h.1, fun i hl => hi i hl (h.2 i hl)⟩)
  · exact h
  · exact ⟨h.1, fun i hl => hi i hl (h.2 i hl)⟩
  · exact h
  · exact h
  · exact h
  · exact ⟨h.1, fun i hl => hi i hl (h.2 i hl)⟩
  · exact h

/-- A schema of at most so many levels. -/
def Shp : Nat → Dat → Prop
  | 0, _ => False
  | d + 1, v => v.kind = 5 ∧ ∀ i (h : i < v.keys.length) (h' : i < v.items.length), FitN (Shp d) (shapeN v.keys[i]) v.items[i] ∧ (v.keys[i] = kId → ∃ j, ∃ h : j < v.keys.length, v.keys[j] = kSSchema)

theorem Shp.succ : ∀ (d : Nat) (v : Dat), Shp d v → Shp (d + 1) v
  | 0, _, h => h.elim
  | d + 1, v, h => ⟨h.1, fun i hk hi => ⟨(h.2 i hk hi).1.mono (fun h => Shp.succ d _ h) (fun j hj h => Shp.succ d _ h), (h.2 i hk hi).2⟩⟩
theorem Shp.mono {d e : Nat} (h : d ≤ e) {v : Dat} (hv : Shp d v) : Shp e v := by
  induction e with
  | zero => obtain rfl : d = 0 := by omega
            exact hv
  | succ e ih =>
    rcases Nat.lt_or_ge d (e + 1) with h1 | h1
    · exact Shp.succ e v (ih (by omega))
    · obtain rfl : d = e + 1 := by omega
      exact hv

/-- The keys of plain data differ. -/
theorem keys_apart {D : Nat} {v : Dat} (hp : Plain D v) (hk : v.kind = 5) : v.keys.length = v.items.length ∧ KeysTo v v.keys.length := by
  have flat : ¬ Flat v := by
    rintro (h | h | h | h | h) <;> · have := h.1; omega
  cases D with
  | zero => exact absurd hp flat
  | succ D =>
    rcases hp with h | h | h
    · exact absurd h flat
    · have := h.1; omega
    · exact ⟨h.2.2.2.1, h.2.2.2.2.2.1⟩
end Go.Proofs.YthdnkcofcbinhaaGreatDoor

/- A schema with its keywords alone, and what stands directly in it: the plain words (no program's steps here). -/
namespace Go.Proofs.YthdnkcofcbinhaaGreatDoor
open Go.RowKit

/-- A function at all maps of a list. -/
def allD (f : Dat → Dat) (x : Dat) : Dat := .mk x.kind 0 ⟨#[]⟩ x.keys (x.items.map fun y => if y.kind = 5 then f y else y)
/-- A function at all schemas that a keyword has. -/
def turnD (f : Dat → Dat) (code : Nat) (x : Dat) : Dat :=
  if code = 5 then f x else if code = 6 then (if x.kind = 5 then f x else x) else if code = 7 then (if x.kind = 5 then f x else allD f x) else if code = 9 ∨ code = 13 then allD f x else x
/-- The schemas that a keyword has. -/
def kidsD (code : Nat) (x : Dat) : List Dat :=
  if code = 5 then [x] else if code = 6 then (if x.kind = 5 then [x] else []) else if code = 7 then (if x.kind = 5 then [x] else x.items.filter fun y => y.kind = 5) else if code = 9 ∨ code = 13 then x.items.filter (fun y => y.kind = 5) else []
/-- The keys of a value with their values. -/
def pairs (v : Dat) : List (ByteArray × Dat) := v.keys.zip v.items
/-- What is kept of a key and its value. -/
def keepP (f : Dat → Dat) (p : ByteArray × Dat) : Option (ByteArray × Dat) := if shapeN p.1 = 0 then none else some (p.1, turnD f (shapeN p.1) p.2)
/-- A schema with its keywords alone. -/
def normD : Nat → Dat → Dat
  | 0, _ => .mk 5 0 ⟨#[]⟩ [] []
  | d + 1, v => .mk 5 0 ⟨#[]⟩ (((pairs v).filterMap (keepP (normD d))).map (·.1)) (((pairs v).filterMap (keepP (normD d))).map (·.2))
/-- All schemas that stand directly in a schema. -/
def kidsOf (v : Dat) : List Dat := (pairs v).flatMap fun p => kidsD (shapeN p.1) p.2

theorem pairs_get {v : Dat} {i : Nat} (h : i < v.keys.length) (h' : i < v.items.length) : (pairs v)[i]? = some (v.keys[i], v.items[i]) := by
  unfold pairs
  rw [List.getElem?_zip_eq_some]
  exact ⟨List.getElem?_eq_getElem h, List.getElem?_eq_getElem h'⟩
theorem pairs_len {v : Dat} (h : v.keys.length = v.items.length) : (pairs v).length = v.keys.length := by
  unfold pairs
  rw [List.length_zip, h]
  omega
theorem take_succ_get {α : Type} {l : List α} {i : Nat} {a : α} (h : l[i]? = some a) : l.take (i + 1) = l.take i ++ [a] := by
  rw [List.take_add_one, h]
  rfl
end Go.Proofs.YthdnkcofcbinhaaGreatDoor

/- The text that describes a schema: the plain words (no program's steps here). -/
namespace Go.Proofs.YthdnkcofcbinhaaGreatDoor
open Go.RowKit

/-- A string's bytes. -/
abbrev bs (s : ByteArray) : List UInt8 := s.data.toList
/-- The value of a key. -/
def atP (key : ByteArray) : List (ByteArray × Dat) → Option Dat
  | [] => none
  | p :: ps => if p.1 = key then some p.2 else atP key ps
def atD (v : Dat) (key : ByteArray) : Option Dat := atP key (pairs v)

def itemsT (R : List UInt8 → Dat → List UInt8) (ind : List UInt8) : Nat → List Dat → List UInt8
  | _, [] => []
  | n, x :: xs => ind ++ ([32, 32] ++ (bs (intText (n : Int)) ++ ([58, 10] ++ (R (ind ++ [32, 32, 32, 32]) x ++ itemsT R ind (n + 1) xs))))
def namedT (R : List UInt8 → Dat → List UInt8) (ind : List UInt8) : List ByteArray → List Dat → List UInt8
  | k :: ks, x :: xs => ind ++ ([32, 32] ++ (bs k ++ ([58, 10] ++ (R (ind ++ [32, 32, 32, 32]) x ++ namedT R ind ks xs))))
  | _, _ => []
def linesT (ind : List UInt8) : List Dat → List UInt8
  | [] => []
  | x :: xs => ind ++ ([32, 32, 32, 32] ++ (bs x.text ++ ([10] ++ linesT ind xs)))
def depsT (ind : List UInt8) : List ByteArray → List Dat → List UInt8
  | k :: ks, x :: xs => ind ++ ([32, 32] ++ (bs k ++ ([58, 10] ++ (linesT ind x.items ++ depsT ind ks xs))))
  | _, _ => []
def boolT (x : Dat) : ByteArray := if (x.num == 1) = true then ⟨#[116, 114, 117, 101]⟩ else ⟨#[102, 97, 108, 115, 101]⟩
def enumT (ind : List UInt8) : List Dat → List UInt8
  | [] => []
  | x :: xs => ind ++ ([32, 32] ++ (bs (if x.kind = 3 then x.text else boolT x) ++ ([10] ++ enumT ind xs)))
def listT (R : List UInt8 → Dat → List UInt8) (ind : List UInt8) : List Dat → List UInt8
  | [] => []
  | x :: xs => R (ind ++ [32, 32]) x ++ (ind ++ ([45, 10] ++ listT R ind xs))
def joinT (sep : List UInt8) (xs : List Dat) : List UInt8 := Lib.join (xs.map fun x => bs x.text) sep

/-- The text of a keyword's value. -/
def secT (R : List UInt8 → Dat → List UInt8) (code : Nat) (name ind : List UInt8) (x : Dat) : List UInt8 :=
  match code with
  | 1 => ind ++ (name ++ ([58, 32] ++ (bs x.text ++ [10])))
  | 2 => ind ++ (name ++ ([58, 32] ++ (bs (boolT x) ++ [10])))
  | 4 => ind ++ (name ++ ([58, 32] ++ (bs (intText x.num) ++ [10])))
  | 5 => ind ++ (name ++ ([58, 10] ++ R (ind ++ [32, 32]) x))
  | 6 => if x.kind = 5 then ind ++ (name ++ ([58, 10] ++ R (ind ++ [32, 32]) x)) else ind ++ (name ++ ([58, 32] ++ (bs (boolT x) ++ [10])))
  | 7 => ind ++ (name ++ ([58, 10] ++ (if x.kind = 5 then R (ind ++ [32, 32, 32, 32]) x else itemsT R ind 0 x.items)))
  | 8 => ind ++ (name ++ ([58, 32, 91] ++ (joinT [32] x.items ++ [93, 10])))
  | 9 => ind ++ (name ++ ([58, 10] ++ namedT R ind x.keys x.items))
  | 10 => ind ++ (name ++ ([58, 10] ++ depsT ind x.keys x.items))
  | 11 => ind ++ (name ++ ([58, 10] ++ enumT ind x.items))
  | 12 => ind ++ (name ++ ([58, 32] ++ ((if x.kind = 3 then bs x.text else joinT [44, 32] x.items) ++ [10])))
  | 13 => ind ++ (name ++ ([58, 10] ++ listT R ind x.items))
  | _ => []
/-- Whether the id is told as 'id'. -/
def plainId (l : List UInt8) : Bool := decide (Lib.trimSuffix l [35] = [104, 116, 116, 112, 58, 47, 47, 106, 115, 111, 110, 45, 115, 99, 104, 101, 109, 97, 46, 111, 114, 103, 47, 100, 114, 97, 102, 116, 45, 48, 52, 47, 115, 99, 104, 101, 109, 97, 35]) || (decide (Lib.trimSuffix l [35] = [35]) || decide (Lib.trimSuffix l [35] = []))
/-- The text of a keyword, beside the text of $schema. -/
def secO (R : List UInt8 → Dat → List UInt8) (ind : List UInt8) (sch : Option Dat) (y : ByteArray × Nat × List UInt8) : Option Dat → List UInt8
  | none => []
  | some x => if y.2.1 = 15 then ind ++ ((if plainId ((sch.map fun s => bs s.text).getD []) = true then [105, 100] else [36, 105, 100]) ++ ([58, 32] ++ (bs x.text ++ [10]))) else secT R y.2.1 y.2.2 ind x
/-- The sections: the key, what it has, its name in the text. -/
def secs : List (ByteArray × Nat × List UInt8) := [(kSSchema, 1, [36, 115, 99, 104, 101, 109, 97]), (kId, 15, [105, 100]), (kExclusiveMaximum, 2, [101, 120, 99, 108, 117, 115, 105, 118, 101, 77, 97, 120, 105, 109, 117, 109]), (kExclusiveMinimum, 2, [101, 120, 99, 108, 117, 115, 105, 118, 101, 77, 105, 110, 105, 109, 117, 109]), (kMaxLength, 4, [109, 97, 120, 76, 101, 110, 103, 116, 104]), (kMinLength, 4, [109, 105, 110, 76, 101, 110, 103, 116, 104]), (kPattern, 1, [112, 97, 116, 116, 101, 114, 110]), (kAdditionalItems, 6, [97, 100, 100, 105, 116, 105, 111, 110, 97, 108, 73, 116, 101, 109, 115]), (kItems, 7, [105, 116, 101, 109, 115]), (kMaxItems, 4, [109, 97, 120, 73, 116, 101, 109, 115]), (kMinItems, 4, [109, 105, 110, 73, 116, 101, 109, 115]), (kUniqueItems, 2, [117, 110, 105, 113, 117, 101, 73, 116, 101, 109, 115]), (kMaxProperties, 4, [109, 97, 120, 80, 114, 111, 112, 101, 114, 116, 105, 101, 115]), (kMinProperties, 4, [109, 105, 110, 80, 114, 111, 112, 101, 114, 116, 105, 101, 115]), (kRequired, 8, [114, 101, 113, 117, 105, 114, 101, 100]), (kAdditionalProperties, 6, [97, 100, 100, 105, 116, 105, 111, 110, 97, 108, 80, 114, 111, 112, 101, 114, 116, 105, 101, 115]), (kProperties, 9, [112, 114, 111, 112, 101, 114, 116, 105, 101, 115]), (kPatternProperties, 9, [112, 97, 116, 116, 101, 114, 110, 80, 114, 111, 112, 101, 114, 116, 105, 101, 115]), (kDependencies, 10, [100, 101, 112, 101, 110, 100, 101, 110, 99, 105, 101, 115]), (kEnum, 11, [101, 110, 117, 109, 101, 114, 97, 116, 105, 111, 110]), (kType, 12, [116, 121, 112, 101]), (kAllOf, 13, [97, 108, 108, 79, 102]), (kAnyOf, 13, [97, 110, 121, 79, 102]), (kOneOf, 13, [111, 110, 101, 79, 102]), (kNot, 5, [110, 111, 116]), (kDefinitions, 9, [100, 101, 102, 105, 110, 105, 116, 105, 111, 110, 115]), (kTitle, 1, [116, 105, 116, 108, 101]), (kDescription, 1, [100, 101, 115, 99, 114, 105, 112, 116, 105, 111, 110]), (kFormat, 1, [102, 111, 114, 109, 97, 116]), (kSRef, 1, [36, 114, 101, 102])]
/-- The text of a schema at an indent. -/
def descr : Nat → List UInt8 → Dat → List UInt8
  | 0, _, _ => []
  | d + 1, ind, v => secs.flatMap fun y => secO (descr d) ind (atD v kSSchema) y (atD v y.1)

theorem atP_filter {f : Dat → Dat} {key : ByteArray} (hk : shapeN key ≠ 0) : ∀ l : List (ByteArray × Dat), atP key (l.filterMap (keepP f)) = (atP key l).map (turnD f (shapeN key))
  | [] => rfl
  | p :: ps => by
    have ih := atP_filter (f := f) hk ps
    rw [List.filterMap_cons]
    by_cases h : p.1 = key
    · have h1 : keepP f p = some (p.1, turnD f (shapeN p.1) p.2) := by unfold keepP; rw [if_neg (by rw [h]; exact hk)]
      rw [h1]
      simp only [atP, h, if_true, Option.map_some]
    · by_cases h0 : shapeN p.1 = 0
      · have h1 : keepP f p = none := by unfold keepP; rw [if_pos h0]
        rw [h1]
        simp only [atP, h, if_false]
        exact ih
      · have h1 : keepP f p = some (p.1, turnD f (shapeN p.1) p.2) := by unfold keepP; rw [if_neg h0]
        rw [h1]
        simp only [atP, h, if_false]
        exact ih
theorem zip_map {α β : Type} : ∀ l : List (α × β), (l.map (·.1)).zip (l.map (·.2)) = l
  | [] => rfl
  | p :: ps => by simp only [List.map_cons, List.zip_cons_cons, zip_map ps]
theorem atD_norm {d : Nat} {v : Dat} {key : ByteArray} (hk : shapeN key ≠ 0) : atD (normD (d + 1) v) key = (atD v key).map (turnD (normD d) (shapeN key)) := by
  unfold atD
  have e : pairs (normD (d + 1) v) = (pairs v).filterMap (keepP (normD d)) := zip_map _
  rw [e]
  exact atP_filter hk _
theorem atP_mem {key : ByteArray} {x : Dat} : ∀ l : List (ByteArray × Dat), atP key l = some x → ∃ p ∈ l, p.1 = key ∧ p.2 = x
  | [], h => by cases h
  | p :: ps, h => by
    unfold atP at h
    split at h
    · rename_i e
      exact ⟨p, List.mem_cons_self .., e, by simpa using h⟩
    · obtain ⟨q, hq, h1, h2⟩ := atP_mem ps h
      exact ⟨q, List.mem_cons_of_mem _ hq, h1, h2⟩
theorem atD_place {v : Dat} {key : ByteArray} {x : Dat} (h : atD v key = some x) : ∃ (i : Nat) (h1 : i < v.keys.length) (h2 : i < v.items.length), v.keys[i] = key ∧ v.items[i] = x := by
  obtain ⟨p, hp, h1, h2⟩ := atP_mem _ h
  obtain ⟨i, hi, e⟩ := List.getElem_of_mem hp
  unfold pairs at hi e
  have hi1 : i < v.keys.length := by rw [List.length_zip] at hi; omega
  have hi2 : i < v.items.length := by rw [List.length_zip] at hi; omega
  rw [List.getElem_zip] at e
  refine ⟨i, hi1, hi2, ?_, ?_⟩
  · rw [← h1, ← e]
  · rw [← h2, ← e]
end Go.Proofs.YthdnkcofcbinhaaGreatDoor
