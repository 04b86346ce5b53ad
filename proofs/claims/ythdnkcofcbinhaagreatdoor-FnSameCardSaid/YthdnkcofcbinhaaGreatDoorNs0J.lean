/- NewSchemaFromObject: a schema in the make (no program's steps here). -/
import Derived.Test.YthdnkcofcbinhaaGreatDoorBs3J
import Derived.Test.YthdnkcofcbinhaaGreatDoorBs5J
import Derived.Test.YthdnkcofcbinhaaGreatDoorBs7J
import Derived.Test.YthdnkcofcbinhaaGreatDoorBs8J
import Derived.Test.YthdnkcofcbinhaaGreatDoorIs1J
set_option linter.unusedVariables false
set_option linter.unusedSimpArgs false
namespace Go.Proofs.YthdnkcofcbinhaaGreatDoor
open Go.RowKit

/-- A schema in the make: i keys are read. -/
structure NInv (w : World) (B m D : Nat) (v : Dat) (i : Nat) (wr : World) : Prop where
  cells : ∃ cs : Array Value, wr.heap[w.heap.size]? = some (.cells cs 69 (0, 0)) ∧ cs.size = 37 ∧ cs[0]? = some (.map (some m)) ∧ cs[4]? = some (.pointer none) ∧ cs[5]? = some (.pointer none) ∧
    ∀ y ∈ kws, 0 < y.2.2 → ∃ f, cs[y.2.2]? = some f ∧
      ((∃ (j : Nat) (h : j < v.keys.length) (h' : j < v.items.length), j < i ∧ v.keys[j] = y.1 ∧ FieldOk (fun k => (k < B ∧ k ≠ m) ∨ (w.heap.size < k ∧ k < wr.heap.size)) wr (Sch (fun k => (k < B ∧ k ≠ m) ∨ (w.heap.size < k ∧ k < wr.heap.size)) wr D) y.2.1 v.items[j] f) ∨
        ((∀ (j : Nat) (h : j < v.keys.length), j < i → v.keys[j] ≠ y.1) ∧ f = .pointer none))
  grown : w.grownBy wr (some m)
  map : MapOk Tryz.prog 9 wr m
  size : w.heap.size + 1 ≤ wr.heap.size

theorem kws_inj : ∀ x ∈ kws, ∀ y ∈ kws, 0 < x.2.2 → x.2.2 = y.2.2 → x.1 = y.1 := by unfold kws; decide
theorem kws_code : ∀ x ∈ kws, ∀ y ∈ kws, 0 < x.2.2 → x.2.2 = y.2.2 → x.2.1 = y.2.1 := by unfold kws; decide
theorem kws_key : ∀ x ∈ kws, ∀ y ∈ kws, 0 < x.2.2 → 0 < y.2.2 → x.1 = y.1 → x.2.2 = y.2.2 := by unfold kws; decide
theorem kws_lt : ∀ x ∈ kws, x.2.2 < 37 ∧ x.2.2 ≠ 4 ∧ x.2.2 ≠ 5 := by unfold kws; decide

/-- The key that is read is no keyword with a field. -/
theorem NInv.skip {w wr : World} {B m D i : Nat} {v : Dat} (I : NInv w B m D v i wr) (hi : i < v.keys.length) (hno : ∀ y ∈ kws, 0 < y.2.2 → v.keys[i] ≠ y.1) : NInv w B m D v (i + 1) wr := by
  obtain ⟨cs, h1, h2, h3, h4, h5, h6⟩ := I.cells
  refine ⟨⟨cs, h1, h2, h3, h4, h5, fun y hy hp => ?_⟩, I.grown, I.map, I.size⟩
  obtain ⟨f, hf, h | h⟩ := h6 y hy hp
  · obtain ⟨j, hj, hj', hji, hk, hok⟩ := h
    exact ⟨f, hf, .inl ⟨j, hj, hj', by omega, hk, hok⟩⟩
  · refine ⟨f, hf, .inr ⟨fun j hj hji => ?_, h.2⟩⟩
    rcases Nat.lt_or_ge j i with h' | h'
    · exact h.1 j hj h'
    · obtain rfl : j = i := by omega
      exact hno y hy hp

/-- A keyword's field is set. -/
theorem NInv.set {w wr w1 : World} {B m D i : Nat} {v : Dat} (I : NInv w B m D v i wr) (hB : B ≤ w.heap.size) (hmB : m < B) (hi : i < v.keys.length) (hi' : i < v.items.length) (x : ByteArray × Nat × Nat) (hx : x ∈ kws) (hx0 : 0 < x.2.2) (hkey : v.keys[i] = x.1)
    {f : Value} (hg : wr.grownBy w1 (some m)) (hm : MapOk Tryz.prog 9 w1 m) (hf : FieldOk (SN B m wr.heap.size w1.heap.size) w1 (Sch (SN B m wr.heap.size w1.heap.size) w1 D) x.2.1 v.items[i] f) :
    NInv w B m D v (i + 1) (w1.setCell ⟨w.heap.size, x.2.2, none⟩ f) := by
  obtain ⟨cs, h1, h2, h3, h4, h5, h6⟩ := I.cells
  have hz := I.size
  have hz1 := hg.size
  have hlt := kws_lt x hx
  have far : ∀ k, k ≠ w.heap.size → (w1.setCell ⟨w.heap.size, x.2.2, none⟩ f).heap[k]? = w1.heap[k]? := fun k hk => Below.heap_setCell _ _ _ _ hk
  have ez : (w1.setCell ⟨w.heap.size, x.2.2, none⟩ f).heap.size = w1.heap.size := by simp [World.setCell]
  have hb1 : w1.heap[w.heap.size]? = some (.cells cs 69 (0, 0)) := (hg.block _ (by omega) (by simp; omega)).trans h1
  have hmv : ∀ k, (k < B ∧ k ≠ m) ∨ (w.heap.size < k ∧ k < wr.heap.size) → (w1.setCell ⟨w.heap.size, x.2.2, none⟩ f).heap[k]? = wr.heap[k]? := fun k hk => by
    rw [far k (by omega)]
    exact hg.block k (by omega) (by simp; omega)
  have hmv1 : ∀ k, SN B m wr.heap.size w1.heap.size k → (w1.setCell ⟨w.heap.size, x.2.2, none⟩ f).heap[k]? = w1.heap[k]? := fun k hk => far k (by rcases hk with h | h <;> omega)
  refine ⟨⟨cs.setIfInBounds x.2.2 f, ?_, by simpa using h2, ?_, ?_, ?_, fun y hy hp => ?_⟩, ?_, hm.same (fun k hk => far k (by omega)), by omega⟩
  · simp only [World.setCell, Array.getElem?_modify, if_true, hb1]
    rfl
  · rw [Array.getElem?_setIfInBounds_ne (by omega)]; exact h3
  · rw [Array.getElem?_setIfInBounds_ne (by omega)]; exact h4
  · rw [Array.getElem?_setIfInBounds_ne (by omega)]; exact h5
  · rw [ez]
    by_cases hxy : x.2.2 = y.2.2
    · refine ⟨f, by rw [← hxy, Array.getElem?_setIfInBounds_self_of_lt (by omega)], .inl ⟨i, hi, hi', by omega, hkey.trans (kws_inj x hx y hy hx0 hxy), ?_⟩⟩
      have hc : x.2.1 = y.2.1 := kws_code x hx y hy hx0 hxy
      rw [← hc]
      exact FieldOk.move hmv1 (fun k hk => by rcases hk with h | h; exact .inl h; exact .inr ⟨by omega, h.2⟩) (fun z k hk => Sch.move hmv1 (fun k hk => by rcases hk with h | h; exact .inl h; exact .inr ⟨by omega, h.2⟩) _ _ _ hk) hf
    · obtain ⟨g, hg', h⟩ := h6 y hy hp
      refine ⟨g, by rw [Array.getElem?_setIfInBounds_ne hxy]; exact hg', ?_⟩
      rcases h with ⟨j, hj, hj', hji, hk, hok⟩ | h
      · exact .inl ⟨j, hj, hj', by omega, hk, FieldOk.move hmv (fun k hk => by rcases hk with h | h; exact .inl h; exact .inr ⟨h.1, by omega⟩) (fun z k hk => Sch.move hmv (fun k hk => by rcases hk with h | h; exact .inl h; exact .inr ⟨h.1, by omega⟩) _ _ _ hk) hok⟩
      · refine .inr ⟨fun j hj hji => ?_, h.2⟩
        rcases Nat.lt_or_ge j i with h' | h'
        · exact h.1 j hj h'
        · obtain rfl : j = i := by omega
          intro e
          exact hxy (kws_key x hx y hy hx0 hp (hkey.symm.trans e))
  · refine ⟨hg.os.trans I.grown.os, hg.tape.trans I.grown.tape, hg.output.trans I.grown.output, by have := I.grown.size; omega, fun k hk hn => ?_⟩
    rw [far k (by omega), hg.block k (by omega) hn]
    exact I.grown.block k hk hn
end Go.Proofs.YthdnkcofcbinhaaGreatDoor

/- NewSchemaFromObject: a keyword's field, whatever its method (no program's steps here). -/
namespace Go.Proofs.YthdnkcofcbinhaaGreatDoor
open Go.RowKit

/-- What stands at the call of a field's method. -/
structure Kid (B m E q n : Nat) (x : Dat) (w : World) : Prop where
  hB : B ≤ w.heap.size
  hmB : m < B
  ih : ∀ D, D < E + 1 → ReadsSchema B m D
  hp : Plain E x
  hN : NodeOf (SB B m) w (E + 1) x n
  hm : MapOk Tryz.prog 9 w m
  hqm : q ≠ m
  hq : w.cell? ⟨q, 0, none⟩ = some (.map (some m))

theorem IsShp.kind {x : Dat} (h : IsShp x) : x.kind = 5 := by
  obtain ⟨d, h⟩ := h
  cases d with
  | zero => exact h.elim
  | succ d => exact h.1
theorem Plain.few {D : Nat} {x : Dat} (h : Plain D x) : x.items.length ≤ 60 := by
  have flat : Flat x → x.items.length ≤ 60 := by
    rintro (h' | h' | h' | h' | h')
    · simp [h'.2.2.2.2]
    · simp [h'.2.2.2.2]
    · simp [h'.2.2.2.2.2]
    · simp [h'.2.2.2.2.2.2]
    · simp [h'.2.2.2.2]
  cases D with
  | zero => exact flat h
  | succ D =>
    rcases h with h | h | h
    · exact flat h
    · exact h.2.2.2.2.1
    · exact h.2.2.2.2.1
theorem Plain.num {D : Nat} {x : Dat} (h : Plain D x) : -1000000000 < x.num ∧ x.num < 1000000000 := by
  have flat : Flat x → -1000000000 < x.num ∧ x.num < 1000000000 := by
    rintro (h' | h' | h' | h' | h') <;> first | exact ⟨h'.2.1, h'.2.2.1⟩ | (have := h'.2.1; omega)
  cases D with
  | zero => exact flat h
  | succ D =>
    rcases h with h | h | h
    · exact flat h
    · have := h.2.1; omega
    · have := h.2.1; omega
theorem Plain.mod {D : Nat} {x : Dat} (h : Plain D x) (h6 : x.kind = 6) : x.num.tmod 4 ≠ 0 := by
  have flat : Flat x → x.num.tmod 4 ≠ 0 := by
    rintro (h' | h' | h' | h' | h')
    · have := h'.1; omega
    · have := h'.1; omega
    · have := h'.1; omega
    · exact h'.2.2.2.1
    · have := h'.1; omega
  cases D with
  | zero => exact flat h
  | succ D =>
    rcases h with h | h | h
    · exact flat h
    · have := h.1; omega
    · have := h.1; omega
theorem gives_succ {B m D code : Nat} {x : Dat} {w : World} {e : Ending} {w' : World} (h : GivesField B m D code x w e w') : GivesField B m (D + 1) code x w e w' := by
  obtain ⟨f, he, hf, hg, hm⟩ := h
  exact ⟨f, he, hf.move (fun _ _ => rfl) (fun _ h => h) (fun x k h => Sch.succ _ x k h), hg, hm⟩

section
variable {B m E q n : Nat} {x : Dat} {w : World} (K : Kid B m E q n x w)
include K
theorem Kid.c1 (h : FitN IsShp 1 x) : Calls Tryz.prog 35 #[.pointer (some ⟨q, 0, none⟩), .pointer (some ⟨n, 0, none⟩)] w (GivesField B m (E + 1) 1 x w) :=
  stringValue_any B m q n E x w h K.hN K.hm |>.mono (fun _ _ h => gives_succ h)
theorem Kid.c2 (h : FitN IsShp 2 x) : Calls Tryz.prog 37 #[.pointer (some ⟨q, 0, none⟩), .pointer (some ⟨n, 0, none⟩)] w (GivesField B m (E + 1) 2 x w) :=
  boolValue_any B m q n E x w h K.hN K.hm |>.mono (fun _ _ h => gives_succ h)
theorem Kid.c3 (h : FitN IsShp 3 x) : Calls Tryz.prog 36 #[.pointer (some ⟨q, 0, none⟩), .pointer (some ⟨n, 0, none⟩)] w (GivesField B m (E + 1) 3 x w) :=
  numberValue_any B m q n E x w h K.hp.num.1 K.hp.num.2 K.hp.mod K.hN K.hm |>.mono (fun _ _ h => gives_succ h)
theorem Kid.c4 (h : FitN IsShp 4 x) : Calls Tryz.prog 38 #[.pointer (some ⟨q, 0, none⟩), .pointer (some ⟨n, 0, none⟩)] w (GivesField B m (E + 1) 4 x w) :=
  intValue_any B m q n E x w h.1 K.hp.num.1 K.hp.num.2 K.hN K.hm |>.mono (fun _ _ h => gives_succ h)
theorem Kid.c5 (h : FitN IsShp 5 x) : Calls Tryz.prog 26 #[.pointer (some ⟨n, 0, none⟩), .map (some m)] w (GivesField B m (E + 1) 5 x w) := by
  refine (K.ih E (by omega) x n w K.hB K.hm K.hN K.hp h).mono ?_
  rintro e w' ⟨b, he, hs, hg, hm⟩
  exact ⟨_, he, ⟨b, rfl, hs⟩, hg, hm⟩
theorem Kid.c6 (h : FitN IsShp 6 x) : Calls Tryz.prog 39 #[.pointer (some ⟨q, 0, none⟩), .pointer (some ⟨n, 0, none⟩)] w (GivesField B m (E + 1) 6 x w) := by
  rcases h with h | h
  · exact schemaOrBoolean_bool B m q n E x w h K.hmB K.hB K.hN K.hm
  · exact schemaOrBoolean_schema B m q n E x w K.hB h.kind (K.ih E (by omega)) K.hp h K.hmB K.hN K.hm K.hq
theorem Kid.c7 (h : FitN IsShp 7 x) : Calls Tryz.prog 40 #[.pointer (some ⟨q, 0, none⟩), .pointer (some ⟨n, 0, none⟩)] w (GivesField B m (E + 1) 7 x w) := by
  rcases h with h | ⟨h, h'⟩
  · exact schemaOrSchemaArray_schema B m q n E x w K.hB h.kind (K.ih E (by omega)) K.hp h K.hN K.hm K.hq
  · exact schemaOrSchemaArray_list B m q n E x w K.hB K.hmB h K.hp.few (fun D hD => K.ih D (by omega)) K.hp (fun i hi => ⟨(h' i hi).kind, h' i hi⟩) K.hN K.hm K.hqm K.hq
theorem Kid.c8 (h : FitN IsShp 8 x) : Calls Tryz.prog 41 #[.pointer (some ⟨q, 0, none⟩), .pointer (some ⟨n, 0, none⟩)] w (GivesField B m (E + 1) 8 x w) :=
  arrayOfStrings_any B m q n E x w K.hB K.hmB h.1 K.hp.few h.2 K.hN K.hm
theorem Kid.c9 (h : FitN IsShp 9 x) : Calls Tryz.prog 42 #[.pointer (some ⟨q, 0, none⟩), .pointer (some ⟨n, 0, none⟩)] w (GivesField B m (E + 1) 9 x w) :=
  mapOfSchemas_any B m q n E x w K.hB K.hmB h.1 K.hp.few (fun D hD => K.ih D (by omega)) K.hp (fun i hi => ⟨(h.2 i hi).kind, h.2 i hi⟩) K.hN K.hm K.hqm K.hq
theorem Kid.c10 (h : FitN IsShp 10 x) : Calls Tryz.prog 43 #[.pointer (some ⟨q, 0, none⟩), .pointer (some ⟨n, 0, none⟩)] w (GivesField B m (E + 1) 10 x w) := by
  refine mapOfTexts_any B m q n E x w K.hB K.hmB h.1 K.hp.few (fun i hi => ?_) h.2 K.hN K.hm
  obtain ⟨D, -, hD⟩ := K.hp.item hi
  exact hD.few
theorem Kid.c11 (h : FitN IsShp 11 x) : Calls Tryz.prog 44 #[.pointer (some ⟨q, 0, none⟩), .pointer (some ⟨n, 0, none⟩)] w (GivesField B m (E + 1) 11 x w) :=
  arrayOfEnumValues_any B m q n E x w K.hB K.hmB h.1 K.hp.few h.2 K.hN K.hm
theorem Kid.c12 (h : FitN IsShp 12 x) : Calls Tryz.prog 45 #[.pointer (some ⟨q, 0, none⟩), .pointer (some ⟨n, 0, none⟩)] w (GivesField B m (E + 1) 12 x w) := by
  rcases h with h | ⟨h, h'⟩
  · exact stringOrStringArray_text B m q n E x w h K.hN K.hm
  · exact stringOrStringArray_list B m q n E x w K.hB K.hmB h K.hp.few h' K.hN K.hm
theorem Kid.c13 (h : FitN IsShp 13 x) : Calls Tryz.prog 46 #[.pointer (some ⟨q, 0, none⟩), .pointer (some ⟨n, 0, none⟩)] w (GivesField B m (E + 1) 13 x w) :=
  arrayOfSchemas_any B m q n E x w K.hB K.hmB h.1 K.hp.few (fun D hD => K.ih D (by omega)) K.hp (fun i hi => ⟨(h.2 i hi).kind, h.2 i hi⟩) K.hN K.hm K.hqm K.hq
end

/-- The schema's node: what the walk needs of it. -/
structure Obj5 (B m D n : Nat) (v : Dat) (w : World) (A : Option Addr) (c : Nat) : Prop where
  sn : SB B m n
  hk : v.kind = 5
  hkl : v.keys.length = v.items.length
  hh : w.heap[n]? = some (nodeBlk 4 tMap ⟨#[]⟩ (.slice A (2 * v.items.length) c))
  kid : ∀ i (h : i < v.items.length) (hk : i < v.keys.length), ∃ g k n, A = some ⟨g, 0, none⟩ ∧ SB B m g ∧ w.cell? ⟨g, 2 * i, none⟩ = some (.pointer (some ⟨k, 0, none⟩)) ∧ w.cell? ⟨g, 2 * i + 1, none⟩ = some (.pointer (some ⟨n, 0, none⟩)) ∧
        SB B m k ∧ w.heap[k]? = some (nodeBlk 8 tStr v.keys[i] (.slice none 0 0)) ∧ NodeOf (SB B m) w D v.items[i] n
theorem Obj5.of {B m D n : Nat} {v : Dat} {w : World} (h : NodeOf (SB B m) w (D + 1) v n) (hk : v.kind = 5) : ∃ A c, Obj5 B m D n v w A c := by
  obtain ⟨hs, ⟨tag, val, h1, _⟩ | ⟨h1, _⟩ | ⟨_, hkl, A, c, hh, hit⟩⟩ := h
  · exfalso
    rcases h1 with h | h | h | h | h <;> · have := h.1; omega
  · omega
  · exact ⟨A, c, hs, hk, hkl, hh, hit⟩
end Go.Proofs.YthdnkcofcbinhaaGreatDoor

/- NewSchemaFromObject: its loop, its frame, what a round finds (no program's steps here). -/
namespace Go.Proofs.YthdnkcofcbinhaaGreatDoor
open Go.RowKit

def firstLoop : Code → Option Code
  | .loop c => some c
  | .seq a b => match firstLoop a with
    | some c => some c
    | none => firstLoop b
  | .block _ c => firstLoop c
  | .scope c => firstLoop c
  | .cond _ a b => match firstLoop a with
    | some c => some c
    | none => firstLoop b
  | _ => none
noncomputable def nsoBody : Code := ((Tryz.f26.body.bind firstLoop).getD .skip)
set_option maxRecDepth 1000000 in
def lit (n m p : Nat) (z : Int) (u : Nat → Value) : Act := ⟨#[.pointer (some ⟨n, 0, none⟩), .map (some m), u 2, u 3, .pointer none, .pointer (some ⟨p, 0, none⟩), .int .i64 z, u 7, u 8, u 9, u 10, u 11, u 12, u 13, u 14, u 15, u 16, u 17, u 18, u 19, u 20, u 21, u 22, u 23, u 24, u 25, u 26, u 27, u 28, u 29, u 30, u 31, u 32, u 33, u 34, u 35, u 36, u 37, u 38, u 39, u 40, u 41, u 42, u 43, u 44, u 45, u 46, u 47, u 48, u 49, u 50, u 51, u 52, u 53, u 54, u 55, u 56, u 57, u 58, u 59, u 60, u 61, u 62, u 63, u 64, u 65, u 66, u 67, u 68, u 69, u 70, u 71, u 72, u 73, u 74, u 75, u 76, u 77, u 78, u 79, u 80, u 81, u 82, u 83, u 84, u 85, u 86, u 87, u 88, u 89, u 90, u 91, u 92, u 93, u 94, u 95, u 96, u 97, u 98, u 99, u 100, u 101, u 102, u 103, u 104, u 105, u 106, u 107, u 108, u 109, u 110, u 111, u 112, u 113, u 114, u 115, u 116, u 117, u 118, u 119, u 120, u 121, u 122, u 123, u 124, u 125, u 126, u 127, u 128, u 129, u 130, u 131, u 132, u 133, u 134, u 135, u 136, u 137, u 138, u 139, u 140, u 141, u 142, u 143, u 144, u 145, u 146, u 147, u 148, u 149, u 150, u 151, u 152, u 153, u 154, u 155, u 156, u 157, u 158, u 159, u 160, u 161, u 162, u 163, u 164, u 165, u 166, u 167, u 168, u 169, u 170, u 171, u 172, u 173, u 174, u 175, u 176, u 177, u 178, u 179, u 180, u 181, u 182, u 183, u 184, u 185, u 186, u 187, u 188, u 189, u 190, u 191, u 192, u 193, u 194, u 195, u 196, u 197, u 198, u 199, u 200, u 201, u 202, u 203, u 204, u 205, u 206, u 207, u 208, u 209, u 210, u 211, u 212, u 213, u 214, u 215, u 216, u 217, u 218, u 219, u 220, u 221, u 222, u 223, u 224, u 225, u 226, u 227, u 228, u 229, u 230, u 231, u 232, u 233, u 234, u 235, u 236, u 237, u 238, u 239, u 240, u 241, u 242, u 243, u 244, u 245, u 246, u 247, u 248, u 249, u 250, u 251, u 252, u 253, u 254, u 255, u 256, u 257, u 258, u 259, u 260, u 261, u 262, u 263, u 264, u 265, u 266, u 267, u 268, u 269, u 270, u 271, u 272, u 273, u 274, u 275, u 276, u 277, u 278, u 279, u 280, u 281, u 282, u 283, u 284, u 285, u 286, u 287, u 288, u 289, u 290, u 291, u 292, u 293, u 294, u 295, u 296, u 297, u 298, u 299, u 300, u 301, u 302, u 303, u 304, u 305, u 306, u 307, u 308, u 309, u 310, u 311, u 312, u 313, u 314, u 315, u 316, u 317, u 318, u 319, u 320, u 321, u 322, u 323, u 324, u 325, u 326, u 327, u 328, u 329, u 330, u 331, u 332, u 333, u 334, u 335, u 336, u 337, u 338, u 339, u 340, u 341, u 342, u 343, u 344, u 345, u 346, u 347, u 348, u 349], []⟩
/-- The frame behind a round. -/
def FrameAt (n m p : Nat) (z : Int) (a : Act) : Prop := a = lit n m p z (fun i => a.tmps.getD i undef)
def WJ (w : World) (B m n D : Nat) (v : Dat) (i j : Nat) (a : Act) (w' : World) : Prop := ∃ z : Int, z = j + 2 ∧ FrameAt n m w.heap.size z a ∧ NInv w B m D v (i + 1) w'

/-- What a round finds. -/
structure RAt (w wr : World) (m n i j : Nat) (v : Dat) (g k nn N c : Nat) (key : ByteArray) : Prop where
  hj : j = 2 * i
  j1 : (j : Int) < (N : Int)
  j2 : (j : Int) + 1 < (N : Int)
  j3 : (j : Int) ≤ 120
  n6 : wr.cell? ⟨n, 6, none⟩ = some (.slice (some ⟨g, 0, none⟩) N c)
  k0 : wr.cell? ⟨g, j, none⟩ = some (.pointer (some ⟨k, 0, none⟩))
  k1 : wr.cell? ⟨g, j + 1, none⟩ = some (.pointer (some ⟨nn, 0, none⟩))
  k3 : wr.cell? ⟨k, 3, none⟩ = some (.string key)
  q0 : wr.cell? ⟨w.heap.size, 0, none⟩ = some (.map (some m))

theorem FieldOk.ptr {S : Nat → Prop} {w : World} {R : Dat → Nat → Prop} {code : Nat} {x : Dat} {f : Value} (h : FieldOk S w R code x f) : ∃ a, f = .pointer (some a) := by
  have pt : ∀ u, PtrTo S w f u → ∃ a, f = .pointer (some a) := fun u ⟨b, o, e, _⟩ => ⟨_, e⟩
  have sl : ∀ z n P, SlicePtr S w z n P f → ∃ a, f = .pointer (some a) := fun z n P ⟨b, v, e, _⟩ => ⟨_, e⟩
  unfold FieldOk at h
  split at h
  · exact pt _ h
  · exact pt _ h
  · exact h
  · exact pt _ h
  · obtain ⟨k, e, -⟩ := h; exact ⟨_, e⟩
  · obtain ⟨k, e, -⟩ := h; exact ⟨_, e⟩
  · obtain ⟨k, e, -⟩ := h; exact ⟨_, e⟩
  · exact sl _ _ _ h
  · exact sl _ _ _ h
  · exact sl _ _ _ h
  · exact sl _ _ _ h
  · obtain ⟨k, e, -⟩ := h; exact ⟨_, e⟩
  · exact sl _ _ _ h
  · exact h

theorem NInv.cell {w wr w4 : World} {B m D i : Nat} {v : Dat} (I : NInv w B m D v i wr) (hB : B ≤ w.heap.size) (hmB : m < B) (hg : wr.grownBy w4 (some m)) (f : Nat) (hf : f < 37) : (∃ old, w4.cell? ⟨w.heap.size, f, none⟩ = some old) ∧ w4.frozen? ⟨w.heap.size, f, none⟩ = false := by
  obtain ⟨cs, h1, h2, -⟩ := I.cells
  have hz := I.size
  have h4 := (hg.block w.heap.size (by omega) (by simp; omega)).trans h1
  exact ⟨⟨cs[f], (blk_cell h4 f).trans (by simp [h2, hf])⟩, blk_frozen h4 f⟩

end Go.Proofs.YthdnkcofcbinhaaGreatDoor
