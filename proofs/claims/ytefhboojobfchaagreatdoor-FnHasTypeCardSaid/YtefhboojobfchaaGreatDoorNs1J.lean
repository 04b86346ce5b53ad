/- NewSchemaFromObject: a keyword's field, whatever its method (no program's steps here). -/
import Derived.Test.YtefhboojobfchaaGreatDoorNs0J
set_option linter.unusedVariables false
set_option linter.unusedSimpArgs false
namespace Go.Proofs.YtefhboojobfchaaGreatDoor
open Go.RowKit

/-- What stands at the call of a field's method. -/
structure Kid (B m E q n : Nat) (x : Dat) (w : World) : Prop where
  hB : B ≤ w.heap.size
  hmB : m < B
  ih : ∀ D, D < E + 1 → ReadsSchema B m D
  hp : Plain E x
  hN : NodeOf (SB B m) w (E + 1) x n
  hm : MapOk Tryz.prog 9 w m
  hqm : q ≠ m
  hq : w.cell? ⟨q, 0, none⟩ = some (.map (some m))

theorem IsShp.kind {x : Dat} (h : IsShp x) : x.kind = 5 := by
  obtain ⟨d, h⟩ := h
  cases d with
  | zero => exact h.elim
  | succ d => exact h.1
theorem Plain.few {D : Nat} {x : Dat} (h : Plain D x) : x.items.length ≤ 60 := by
  have flat : Flat x → x.items.length ≤ 60 := by
    rintro (h' | h' | h' | h' | h')
    · simp [h'.2.2.2.2]
    · simp [h'.2.2.2.2]
    · simp [h'.2.2.2.2.2]
    · simp [h'.2.2.2.2.2.2]
    · simp [h'.2.2.2.2]
  cases D with
  | zero => exact flat h
  | succ D =>
    rcases h with h | h | h
    · exact flat h
    · exact h.2.2.2.2.1
    · exact h.2.2.2.2.1
theorem Plain.num {D : Nat} {x : Dat} (h : Plain D x) : -1000000000 < x.num ∧ x.num < 1000000000 := by
  have flat : Flat x → -1000000000 < x.num ∧ x.num < 1000000000 := by
    rintro (h' | h' | h' | h' | h') <;> first | exact ⟨h'.2.1, h'.2.2.1⟩ | (have := h'.2.1; omega)
  cases D with
  | zero => exact flat h
  | succ D =>
    rcases h with h | h | h
    · exact flat h
    · have := h.2.1; omega
    · have := h.2.1; omega
theorem Plain.mod {D : Nat} {x : Dat} (h : Plain D x) (h6 : x.kind = 6) : x.num.tmod 4 ≠ 0 := by
  have flat : Flat x → x.num.tmod 4 ≠ 0 := by
    rintro (h' | h' | h' | h' | h')
    · have := h'.1; omega
    · have := h'.1; omega
    · have := h'.1; omega
    · exact h'.2.2.2.1
    · have := h'.1; omega
  cases D with
  | zero => exact flat h
  | succ D =>
    rcases h with h | h | h
    · exact flat h
    · have := h.1; omega
    · have := h.1; omega
theorem gives_succ {B m D code : Nat} {x : Dat} {w : World} {e : Ending} {w' : World} (h : GivesField B m D code x w e w') : GivesField B m (D + 1) code x w e w' := by
  obtain ⟨f, he, hf, hg, hm⟩ := h
  exact ⟨f, he, hf.move (fun _ _ => rfl) (fun _ h => h) (fun x k h => Sch.succ _ x k h), hg, hm⟩

section
variable {B m E q n : Nat} {x : Dat} {w : World} (K : Kid B m E q n x w)
include K
theorem Kid.c1 (h : FitN IsShp 1 x) : Calls Tryz.prog 27 #[.pointer (some ⟨q, 0, none⟩), .pointer (some ⟨n, 0, none⟩)] w (GivesField B m (E + 1) 1 x w) :=
  stringValue_any B m q n E x w h K.hN K.hm |>.mono (fun _ _ h => gives_succ h)
theorem Kid.c2 (h : FitN IsShp 2 x) : Calls Tryz.prog 29 #[.pointer (some ⟨q, 0, none⟩), .pointer (some ⟨n, 0, none⟩)] w (GivesField B m (E + 1) 2 x w) :=
  boolValue_any B m q n E x w h K.hN K.hm |>.mono (fun _ _ h => gives_succ h)
theorem Kid.c3 (h : FitN IsShp 3 x) : Calls Tryz.prog 28 #[.pointer (some ⟨q, 0, none⟩), .pointer (some ⟨n, 0, none⟩)] w (GivesField B m (E + 1) 3 x w) :=
  numberValue_any B m q n E x w h K.hp.num.1 K.hp.num.2 K.hp.mod K.hN K.hm |>.mono (fun _ _ h => gives_succ h)
theorem Kid.c4 (h : FitN IsShp 4 x) : Calls Tryz.prog 30 #[.pointer (some ⟨q, 0, none⟩), .pointer (some ⟨n, 0, none⟩)] w (GivesField B m (E + 1) 4 x w) :=
  intValue_any B m q n E x w h.1 K.hp.num.1 K.hp.num.2 K.hN K.hm |>.mono (fun _ _ h => gives_succ h)
theorem Kid.c5 (h : FitN IsShp 5 x) : Calls Tryz.prog 19 #[.pointer (some ⟨n, 0, none⟩), .map (some m)] w (GivesField B m (E + 1) 5 x w) := by
  refine (K.ih E (by omega) x n w K.hB K.hm K.hN K.hp h).mono ?_
  rintro e w' ⟨b, he, hs, hg, hm⟩
  exact ⟨_, he, ⟨b, rfl, hs⟩, hg, hm⟩
theorem Kid.c6 (h : FitN IsShp 6 x) : Calls Tryz.prog 31 #[.pointer (some ⟨q, 0, none⟩), .pointer (some ⟨n, 0, none⟩)] w (GivesField B m (E + 1) 6 x w) := by
  rcases h with h | h
  · exact schemaOrBoolean_bool B m q n E x w h K.hmB K.hB K.hN K.hm
  · exact schemaOrBoolean_schema B m q n E x w K.hB h.kind (K.ih E (by omega)) K.hp h K.hmB K.hN K.hm K.hq
theorem Kid.c7 (h : FitN IsShp 7 x) : Calls Tryz.prog 32 #[.pointer (some ⟨q, 0, none⟩), .pointer (some ⟨n, 0, none⟩)] w (GivesField B m (E + 1) 7 x w) := by
  rcases h with h | ⟨h, h'⟩
  · exact schemaOrSchemaArray_schema B m q n E x w K.hB h.kind (K.ih E (by omega)) K.hp h K.hN K.hm K.hq
  · exact schemaOrSchemaArray_list B m q n E x w K.hB K.hmB h K.hp.few (fun D hD => K.ih D (by omega)) K.hp (fun i hi => ⟨(h' i hi).kind, h' i hi⟩) K.hN K.hm K.hqm K.hq
theorem Kid.c8 (h : FitN IsShp 8 x) : Calls Tryz.prog 33 #[.pointer (some ⟨q, 0, none⟩), .pointer (some ⟨n, 0, none⟩)] w (GivesField B m (E + 1) 8 x w) :=
  arrayOfStrings_any B m q n E x w K.hB K.hmB h.1 K.hp.few h.2 K.hN K.hm
theorem Kid.c9 (h : FitN IsShp 9 x) : Calls Tryz.prog 34 #[.pointer (some ⟨q, 0, none⟩), .pointer (some ⟨n, 0, none⟩)] w (GivesField B m (E + 1) 9 x w) :=
  mapOfSchemas_any B m q n E x w K.hB K.hmB h.1 K.hp.few (fun D hD => K.ih D (by omega)) K.hp (fun i hi => ⟨(h.2 i hi).kind, h.2 i hi⟩) K.hN K.hm K.hqm K.hq
theorem Kid.c10 (h : FitN IsShp 10 x) : Calls Tryz.prog 35 #[.pointer (some ⟨q, 0, none⟩), .pointer (some ⟨n, 0, none⟩)] w (GivesField B m (E + 1) 10 x w) := by
  refine mapOfTexts_any B m q n E x w K.hB K.hmB h.1 K.hp.few (fun i hi => ?_) h.2 K.hN K.hm
  obtain ⟨D, -, hD⟩ := K.hp.item hi
  exact hD.few
theorem Kid.c11 (h : FitN IsShp 11 x) : Calls Tryz.prog 36 #[.pointer (some ⟨q, 0, none⟩), .pointer (some ⟨n, 0, none⟩)] w (GivesField B m (E + 1) 11 x w) :=
  arrayOfEnumValues_any B m q n E x w K.hB K.hmB h.1 K.hp.few h.2 K.hN K.hm
theorem Kid.c12 (h : FitN IsShp 12 x) : Calls Tryz.prog 37 #[.pointer (some ⟨q, 0, none⟩), .pointer (some ⟨n, 0, none⟩)] w (GivesField B m (E + 1) 12 x w) := by
  rcases h with h | ⟨h, h'⟩
  · exact stringOrStringArray_text B m q n E x w h K.hN K.hm
  · exact stringOrStringArray_list B m q n E x w K.hB K.hmB h K.hp.few h' K.hN K.hm
theorem Kid.c13 (h : FitN IsShp 13 x) : Calls Tryz.prog 38 #[.pointer (some ⟨q, 0, none⟩), .pointer (some ⟨n, 0, none⟩)] w (GivesField B m (E + 1) 13 x w) :=
  arrayOfSchemas_any B m q n E x w K.hB K.hmB h.1 K.hp.few (fun D hD => K.ih D (by omega)) K.hp (fun i hi => ⟨(h.2 i hi).kind, h.2 i hi⟩) K.hN K.hm K.hqm K.hq
end

/-- The schema's node: what the walk needs of it. -/
structure Obj5 (B m D n : Nat) (v : Dat) (w : World) (A : Option Addr) (c : Nat) : Prop where
  sn : SB B m n
  hk : v.kind = 5
  hkl : v.keys.length = v.items.length
  hh : w.heap[n]? = some (nodeBlk 4 tMap ⟨#[]⟩ (.slice A (2 * v.items.length) c))
  kid : ∀ i (h : i < v.items.length) (hk : i < v.keys.length), ∃ g k n, A = some ⟨g, 0, none⟩ ∧ SB B m g ∧ w.cell? ⟨g, 2 * i, none⟩ = some (.pointer (some ⟨k, 0, none⟩)) ∧ w.cell? ⟨g, 2 * i + 1, none⟩ = some (.pointer (some ⟨n, 0, none⟩)) ∧
        SB B m k ∧ w.heap[k]? = some (nodeBlk 8 tStr v.keys[i] (.slice none 0 0)) ∧ NodeOf (SB B m) w D v.items[i] n
theorem Obj5.of {B m D n : Nat} {v : Dat} {w : World} (h : NodeOf (SB B m) w (D + 1) v n) (hk : v.kind = 5) : ∃ A c, Obj5 B m D n v w A c := by
  obtain ⟨hs, ⟨tag, val, h1, _⟩ | ⟨h1, _⟩ | ⟨_, hkl, A, c, hh, hit⟩⟩ := h
  · exfalso
    rcases h1 with h | h | h | h | h <;> · have := h.1; omega
  · omega
  · exact ⟨A, c, hs, hk, hkl, hh, hit⟩
end Go.Proofs.YtefhboojobfchaaGreatDoor
