/- A schema that was read from a tree: how it lies (no program's steps here). -/
import Derived.Test.YthdnkcofcbinhaaGreatDoorGnJ
import Derived.Test.YthdnkcofcbinhaaGreatDoorKwJ
import Derived.Test.YthdnkcofcbinhaaGreatDoorProg
set_option linter.unusedVariables false
set_option linter.unusedSimpArgs false
namespace Go.Proofs.YthdnkcofcbinhaaGreatDoor
open Go.RowKit

/-- A pointer to a cell that holds u. -/
def PtrTo (S : Nat → Prop) (w : World) (f u : Value) : Prop := ∃ b o, f = .pointer (some ⟨b, o, none⟩) ∧ S b ∧ w.cell? ⟨b, o, none⟩ = some u
/-- A slice of n elements of z cells. -/
def RowOf (S : Nat → Prop) (w : World) (z n : Nat) (P : Nat → List Value → Prop) (v : Value) : Prop :=
  ∃ A c, v = .slice A n c ∧ n ≤ c ∧ c ≤ maxLen ∧ ∀ j, j < n → ∃ g us, A = some ⟨g, 0, none⟩ ∧ S g ∧ us.length = z ∧ (∀ t u, us[t]? = some u → w.cell? ⟨g, j * z + t, none⟩ = some u) ∧ P j us
/-- A pointer to a variable that holds a slice. -/
def SlicePtr (S : Nat → Prop) (w : World) (z n : Nat) (P : Nat → List Value → Prop) (f : Value) : Prop :=
  ∃ b v, f = .pointer (some ⟨b, 0, none⟩) ∧ S b ∧ w.cell? ⟨b, 0, none⟩ = some v ∧ RowOf S w z n P v
/-- The texts of items. -/
def TextAt (x : Dat) (j : Nat) (us : List Value) : Prop := ∃ h : j < x.items.length, us = [.string x.items[j].text]
/-- Schemas of items. -/
def SchemaAt (R : Dat → Nat → Prop) (x : Dat) (j : Nat) (us : List Value) : Prop := ∃ (h : j < x.items.length) (k : Nat), us = [.pointer (some ⟨k, 0, none⟩)] ∧ R x.items[j] k
/-- Schemas of items, with names. -/
def NamedAt (S : Nat → Prop) (w : World) (R : Dat → Nat → Prop) (x : Dat) (j : Nat) (us : List Value) : Prop :=
  ∃ (h : j < x.items.length) (h' : j < x.keys.length) (b k : Nat), us = [.pointer (some ⟨b, 0, none⟩)] ∧ S b ∧ w.heap[b]? = some (.cells #[.string x.keys[j], .pointer (some ⟨k, 0, none⟩)] 107 (0, 0)) ∧ R x.items[j] k
/-- Texts, with names. -/
def DependAt (S : Nat → Prop) (w : World) (x : Dat) (j : Nat) (us : List Value) : Prop :=
  ∃ (h : j < x.items.length) (h' : j < x.keys.length) (b b2 : Nat) (g : Value), us = [.pointer (some ⟨b, 0, none⟩)] ∧ S b ∧ w.heap[b]? = some (.cells #[.string x.keys[j], .pointer (some ⟨b2, 0, none⟩)] 114 (0, 0)) ∧
    S b2 ∧ w.heap[b2]? = some (.cells #[.pointer none, g] 111 (0, 0)) ∧ SlicePtr S w 1 x.items[j].items.length (TextAt x.items[j]) g
/-- The values of an enumeration. -/
def EnumAt (S : Nat → Prop) (w : World) (x : Dat) (j : Nat) (us : List Value) : Prop :=
  ∃ (h : j < x.items.length) (u : Value), (x.items[j].kind = 3 ∧ us = [u, .pointer none] ∧ PtrTo S w u (.string x.items[j].text)) ∨ (x.items[j].kind = 1 ∧ us = [.pointer none, u] ∧ PtrTo S w u (.bool (x.items[j].num == 1)))

/-- What a keyword's field holds. -/
def FieldOk (S : Nat → Prop) (w : World) (R : Dat → Nat → Prop) (code : Nat) (x : Dat) (f : Value) : Prop :=
  match code with
  | 1 => PtrTo S w f (.string x.text)
  | 2 => PtrTo S w f (.bool (x.num == 1))
  | 3 => ∃ a, f = .pointer (some a)
  | 4 => PtrTo S w f (.int .i64 x.num)
  | 5 => ∃ k, f = .pointer (some ⟨k, 0, none⟩) ∧ R x k
  | 6 => ∃ b, f = .pointer (some ⟨b, 0, none⟩) ∧ S b ∧ ((x.kind = 1 ∧ ∃ g, w.heap[b]? = some (.cells #[.pointer none, g] 100 (0, 0)) ∧ PtrTo S w g (.bool (x.num == 1))) ∨
      (x.kind = 5 ∧ ∃ k, w.heap[b]? = some (.cells #[.pointer (some ⟨k, 0, none⟩), .pointer none] 100 (0, 0)) ∧ R x k))
  | 7 => ∃ b, f = .pointer (some ⟨b, 0, none⟩) ∧ S b ∧ ((x.kind = 4 ∧ ∃ g, w.heap[b]? = some (.cells #[.pointer none, g] 103 (0, 0)) ∧ SlicePtr S w 1 x.items.length (SchemaAt R x) g) ∨
      (x.kind = 5 ∧ ∃ k, w.heap[b]? = some (.cells #[.pointer (some ⟨k, 0, none⟩), .pointer none] 103 (0, 0)) ∧ R x k))
  | 8 => SlicePtr S w 1 x.items.length (TextAt x) f
  | 9 => SlicePtr S w 1 x.items.length (NamedAt S w R x) f
  | 10 => SlicePtr S w 1 x.items.length (DependAt S w x) f
  | 11 => SlicePtr S w 2 x.items.length (EnumAt S w x) f
  | 12 => ∃ b, f = .pointer (some ⟨b, 0, none⟩) ∧ S b ∧ ((x.kind = 3 ∧ ∃ g, w.heap[b]? = some (.cells #[g, .pointer none] 119 (0, 0)) ∧ PtrTo S w g (.string x.text)) ∨
      (x.kind = 4 ∧ ∃ g, w.heap[b]? = some (.cells #[.pointer none, g] 119 (0, 0)) ∧ SlicePtr S w 1 x.items.length (TextAt x) g))
  | 13 => SlicePtr S w 1 x.items.length (SchemaAt R x) f
  | _ => ∃ a, f = .pointer (some a)

/-- The field of a keyword: its item's, or nil. -/
def FieldAt (v : Dat) (key : ByteArray) (P : Dat → Value → Prop) (f : Value) : Prop :=
  (∃ (i : Nat) (h : i < v.keys.length) (h' : i < v.items.length), v.keys[i] = key ∧ P v.items[i] f) ∨ ((∀ (i : Nat) (h : i < v.keys.length), v.keys[i] ≠ key) ∧ f = .pointer none)

/-- Block b is the schema of a Value; all blocks are of the set S. -/
def Sch (S : Nat → Prop) (w : World) : Nat → Dat → Nat → Prop
  | 0, _, _ => False
  | d + 1, v, b => S b ∧ v.kind = 5 ∧ ∃ cs : Array Value, w.heap[b]? = some (.cells cs 69 (0, 0)) ∧ cs.size = 37 ∧ cs[4]? = some (.pointer none) ∧ cs[5]? = some (.pointer none) ∧
    ∀ x ∈ kws, 0 < x.2.2 → ∃ f, cs[x.2.2]? = some f ∧ FieldAt v x.1 (FieldOk S w (Sch S w d) x.2.1) f

section
variable {S T : Nat → Prop} {w w1 : World}
theorem cell_move (hb : ∀ k, S k → w1.heap[k]? = w.heap[k]?) {b o : Nat} {u : Value} (hS : S b) (h : w.cell? ⟨b, o, none⟩ = some u) : w1.cell? ⟨b, o, none⟩ = some u := (World.cell?_of_block (a := ⟨b, o, none⟩) (hb b hS)).trans h
theorem PtrTo.move (hb : ∀ k, S k → w1.heap[k]? = w.heap[k]?) (hT : ∀ k, S k → T k) {f u : Value} (h : PtrTo S w f u) : PtrTo T w1 f u := by
  obtain ⟨b, o, e, hs, hc⟩ := h
  exact ⟨b, o, e, hT _ hs, cell_move hb hs hc⟩
theorem RowOf.move (hb : ∀ k, S k → w1.heap[k]? = w.heap[k]?) (hT : ∀ k, S k → T k) {z n : Nat} {P P' : Nat → List Value → Prop} (hP : ∀ j us, P j us → P' j us) {v : Value} (h : RowOf S w z n P v) : RowOf T w1 z n P' v := by
  obtain ⟨A, c, e, h1, h2, h3⟩ := h
  refine ⟨A, c, e, h1, h2, fun j hj => ?_⟩
  obtain ⟨g, us, eA, hs, hl, hc, hp⟩ := h3 j hj
  exact ⟨g, us, eA, hT _ hs, hl, fun t u hu => cell_move hb hs (hc t u hu), hP _ _ hp⟩
theorem SlicePtr.move (hb : ∀ k, S k → w1.heap[k]? = w.heap[k]?) (hT : ∀ k, S k → T k) {z n : Nat} {P P' : Nat → List Value → Prop} (hP : ∀ j us, P j us → P' j us) {f : Value} (h : SlicePtr S w z n P f) : SlicePtr T w1 z n P' f := by
  obtain ⟨b, v, e, hs, hc, hr⟩ := h
  exact ⟨b, v, e, hT _ hs, cell_move hb hs hc, hr.move hb hT hP⟩
theorem SchemaAt.move {R R' : Dat → Nat → Prop} (hR : ∀ x k, R x k → R' x k) {x : Dat} {j : Nat} {us : List Value} (h : SchemaAt R x j us) : SchemaAt R' x j us := by
  obtain ⟨h1, k, e, hr⟩ := h
  exact ⟨h1, k, e, hR _ _ hr⟩
theorem NamedAt.move (hb : ∀ k, S k → w1.heap[k]? = w.heap[k]?) (hT : ∀ k, S k → T k) {R R' : Dat → Nat → Prop} (hR : ∀ x k, R x k → R' x k) {x : Dat} {j : Nat} {us : List Value} (h : NamedAt S w R x j us) : NamedAt T w1 R' x j us := by
  obtain ⟨h1, h2, b, k, e, hs, hh, hr⟩ := h
  exact ⟨h1, h2, b, k, e, hT _ hs, (hb _ hs).trans hh, hR _ _ hr⟩
theorem DependAt.move (hb : ∀ k, S k → w1.heap[k]? = w.heap[k]?) (hT : ∀ k, S k → T k) {x : Dat} {j : Nat} {us : List Value} (h : DependAt S w x j us) : DependAt T w1 x j us := by
  obtain ⟨h1, h2, b, b2, g, e, hs, hh, hs2, hh2, hr⟩ := h
  exact ⟨h1, h2, b, b2, g, e, hT _ hs, (hb _ hs).trans hh, hT _ hs2, (hb _ hs2).trans hh2, hr.move hb hT (fun _ _ h => h)⟩
theorem EnumAt.move (hb : ∀ k, S k → w1.heap[k]? = w.heap[k]?) (hT : ∀ k, S k → T k) {x : Dat} {j : Nat} {us : List Value} (h : EnumAt S w x j us) : EnumAt T w1 x j us := by
  obtain ⟨h1, u, ⟨e0, e, hp⟩ | ⟨e0, e, hp⟩⟩ := h
  · exact ⟨h1, u, .inl ⟨e0, e, hp.move hb hT⟩⟩
  · exact ⟨h1, u, .inr ⟨e0, e, hp.move hb hT⟩⟩
theorem FieldOk.move (hb : ∀ k, S k → w1.heap[k]? = w.heap[k]?) (hT : ∀ k, S k → T k) {R R' : Dat → Nat → Prop} (hR : ∀ x k, R x k → R' x k) {code : Nat} {x : Dat} {f : Value} (h : FieldOk S w R code x f) : FieldOk T w1 R' code x f := by
  unfold FieldOk at *
  split at h
  · exact PtrTo.move hb hT h
  · exact PtrTo.move hb hT h
  · exact h
  · exact PtrTo.move hb hT h
  · obtain ⟨k, e, hr⟩ := h
    exact ⟨k, e, hR _ _ hr⟩
  · obtain ⟨b, e, hs, ⟨h0, g, hh, hp⟩ | ⟨h0, k, hh, hr⟩⟩ := h
    · exact ⟨b, e, hT _ hs, .inl ⟨h0, g, (hb _ hs).trans hh, hp.move hb hT⟩⟩
    · exact ⟨b, e, hT _ hs, .inr ⟨h0, k, (hb _ hs).trans hh, hR _ _ hr⟩⟩
  · obtain ⟨b, e, hs, ⟨h0, g, hh, hp⟩ | ⟨h0, k, hh, hr⟩⟩ := h
    · exact ⟨b, e, hT _ hs, .inl ⟨h0, g, (hb _ hs).trans hh, hp.move hb hT (fun _ _ h => h.move hR)⟩⟩
    · exact ⟨b, e, hT _ hs, .inr ⟨h0, k, (hb _ hs).trans hh, hR _ _ hr⟩⟩
  · exact SlicePtr.move hb hT (fun _ _ h => h) h
  · exact SlicePtr.move hb hT (fun _ _ h => NamedAt.move hb hT hR h) h
  · exact SlicePtr.move hb hT (fun _ _ h => DependAt.move hb hT h) h
  · exact SlicePtr.move hb hT (fun _ _ h => EnumAt.move hb hT h) h
  · obtain ⟨b, e, hs, ⟨h0, g, hh, hp⟩ | ⟨h0, g, hh, hp⟩⟩ := h
    · exact ⟨b, e, hT _ hs, .inl ⟨h0, g, (hb _ hs).trans hh, hp.move hb hT⟩⟩
    · exact ⟨b, e, hT _ hs, .inr ⟨h0, g, (hb _ hs).trans hh, hp.move hb hT (fun _ _ h => h)⟩⟩
  · exact SlicePtr.move hb hT (fun _ _ h => h.move hR) h
  · exact h
theorem FieldAt.move {v : Dat} {key : ByteArray} {P P' : Dat → Value → Prop} {f : Value} (hP : ∀ x, P x f → P' x f) (h : FieldAt v key P f) : FieldAt v key P' f := by
  rcases h with ⟨i, h1, h2, e, hp⟩ | h
  · exact .inl ⟨i, h1, h2, e, hP _ hp⟩
  · exact .inr h
end
theorem Sch.move {S T : Nat → Prop} {w w1 : World} (hb : ∀ k, S k → w1.heap[k]? = w.heap[k]?) (hT : ∀ k, S k → T k) : ∀ (d : Nat) (v : Dat) (b : Nat), Sch S w d v b → Sch T w1 d v b
  | 0, _, _, h => h
  | d + 1, v, b, h => by
    obtain ⟨hs, hk, cs, hh, hz, h4, h5, hf⟩ := h
    refine ⟨hT _ hs, hk, cs, (hb _ hs).trans hh, hz, h4, h5, fun x hx hp => ?_⟩
    obtain ⟨f, hc, ha⟩ := hf x hx hp
    exact ⟨f, hc, ha.move (fun y hy => hy.move hb hT (fun x k h => Sch.move hb hT d x k h))⟩

/-- The blocks of what is read: those of the tree (below B, but the map's), and those made since. -/
def SN (B m lo hi : Nat) (k : Nat) : Prop := (k < B ∧ k ≠ m) ∨ (lo ≤ k ∧ k < hi)

/-- What a method that reads a field gives. -/
def GivesField (B m D code : Nat) (x : Dat) (w : World) (e : Ending) (w' : World) : Prop :=
  ∃ f, e = .returned f ∧ FieldOk (SN B m w.heap.size w'.heap.size) w' (Sch (SN B m w.heap.size w'.heap.size) w' D) code x f ∧ w.grownBy w' (some m) ∧ MapOk Tryz.prog 9 w' m
/-- What NewSchemaFromObject gives. -/
def GivesSch (B m D : Nat) (v : Dat) (w : World) (e : Ending) (w' : World) : Prop :=
  ∃ b, e = .returned (.pointer (some ⟨b, 0, none⟩)) ∧ Sch (SN B m w.heap.size w'.heap.size) w' D v b ∧ w.grownBy w' (some m) ∧ MapOk Tryz.prog 9 w' m

/-- A slice in the make: n elements of z cells; its variable is block bx. -/
structure PRow (B m base bx : Nat) (T : TypeId) (z : Nat) (Q : (Nat → Prop) → World → Nat → List Value → Prop) (n : Nat) (cv : Value) (css : List (List Value)) (wr : World) : Prop where
  own : wr.ownsRow base T z cv n css.flatten
  len : css.length = n
  wid : ∀ cs ∈ css, cs.length = z
  at_ : ∀ j cs, css[j]? = some cs → Q (fun k => (k < B ∧ k ≠ m) ∨ (base ≤ k ∧ k < wr.heap.size ∧ some k ≠ cv.ownBlock ∧ k ≠ bx)) wr j cs
  nbx : cv.ownBlock ≠ some bx

def QMov (Q : (Nat → Prop) → World → Nat → List Value → Prop) : Prop := ∀ (S T : Nat → Prop) (w w1 : World) (j : Nat) (cs : List Value), (∀ k, S k → w1.heap[k]? = w.heap[k]?) → (∀ k, S k → T k) → Q S w j cs → Q T w1 j cs

theorem PRow.keep {B m base bx : Nat} {T : TypeId} {z n : Nat} {Q : (Nat → Prop) → World → Nat → List Value → Prop} {cv : Value} {css : List (List Value)} {w w1 : World} (R : PRow B m base bx T z Q n cv css w) (hQ : QMov Q) (hz : w.heap.size ≤ w1.heap.size)
    (hb : ∀ k, k < w.heap.size → (k < B ∧ k ≠ m) ∨ (base ≤ k ∧ k ≠ bx) → w1.heap[k]? = w.heap[k]?) (hBz : B ≤ w.heap.size) : PRow B m base bx T z Q n cv css w1 := by
  refine ⟨?_, R.len, R.wid, fun j cs hj => hQ _ _ w w1 j cs ?_ ?_ (R.at_ j cs hj), R.nbx⟩
  · obtain ⟨h1, h2⟩ := R.own
    refine ⟨h1, h2.imp id ?_⟩
    rintro ⟨q, cap, cur, hv, hq, hh, r⟩
    exact ⟨q, cap, cur, hv, hq, (hb q (blk_lt hh) (.inr ⟨hq, fun e => R.nbx (by rw [hv, ← e]; rfl)⟩)).trans hh, r⟩
  · rintro k (h | ⟨h1, h2, h3, h4⟩)
    · exact hb k (by omega) (.inl h)
    · exact hb k h2 (.inr ⟨h1, h4⟩)
  · rintro k (h | ⟨h1, h2, h3, h4⟩)
    · exact .inl h
    · exact .inr ⟨h1, by omega, h3, h4⟩

/-- One element more. wr: where the row stood; w1: where the element stands; w3: behind the append. -/
theorem PRow.step {B m base bx : Nat} {T : TypeId} {z n gg cap : Nat} {Q : (Nat → Prop) → World → Nat → List Value → Prop} {cv : Value} {css : List (List Value)} {cs : List Value} {wr w1 w3 : World} {o : Obj} (R : PRow B m base bx T z Q n cv css wr) (hQ : QMov Q)
    (hB : B ≤ base) (hbase : base ≤ wr.heap.size) (hbx : bx < wr.heap.size) (hz1 : wr.heap.size ≤ w1.heap.size) (hk1 : ∀ k, k < wr.heap.size → (k < B ∧ k ≠ m) ∨ (base ≤ k ∧ k ≠ bx) → w1.heap[k]? = wr.heap[k]?)
    (hv : Q (SN B m wr.heap.size w1.heap.size) w1 n cs) (hl : cs.length = z)
    (hown3 : w3.ownsRow base T z (.slice (some ⟨gg, 0, none⟩) (n + 1) cap) (n + 1) (css.flatten ++ cs)) (hgrow : (w1.alloc o).grownBy w3 cv.ownBlock) (hat : cv.ownBlock = some gg ∨ gg = w1.heap.size + 1) :
    PRow B m base bx T z Q (n + 1) (.slice (some ⟨gg, 0, none⟩) (n + 1) cap) (css ++ [cs]) w3 := by
  have hsz : (w1.alloc o).heap.size = w1.heap.size + 1 := by simp
  have hz3 := hgrow.size
  have hlt := R.own.lt
  have keep : ∀ b, b < w1.heap.size → some b ≠ cv.ownBlock → w3.heap[b]? = w1.heap[b]? := by
    intro b h1 h2
    rw [hgrow.block b (by omega) h2]
    exact Below.heap_alloc _ _ _ h1
  have gone : ∀ b, b < w1.heap.size → some b ≠ cv.ownBlock → some b ≠ (Value.slice (some ⟨gg, 0, none⟩) (n + 1) cap).ownBlock := by
    intro b h1 h2 h3
    simp only [Value.ownBlock, Option.some.injEq] at h3
    rcases hat with h | h
    · exact h2 (by rw [h, h3])
    · omega
  have low : ∀ b, b < base → some b ≠ cv.ownBlock := fun b h1 h2 => by have := (hlt b h2.symm).1; omega
  refine ⟨by simpa using hown3, by simp [R.len], fun c hc => ?_, fun j c hj => ?_, ?_⟩
  · rcases List.mem_append.1 hc with h | h
    · exact R.wid c h
    · simp at h
      rw [h, hl]
  · rcases Nat.lt_or_ge j n with hjn | hjn
    · rw [List.getElem?_append_left (by rw [R.len]; exact hjn)] at hj
      refine hQ _ _ wr w3 j c ?_ ?_ (R.at_ j c hj)
      · rintro b (h | ⟨h1, h2, h3, h4⟩)
        · rw [keep b (by omega) (low b (by omega)), hk1 b (by omega) (.inl h)]
        · rw [keep b (by omega) h3, hk1 b h2 (.inr ⟨h1, h4⟩)]
      · rintro b (h | ⟨h1, h2, h3, h4⟩)
        · exact .inl h
        · exact .inr ⟨h1, by omega, gone b (by omega) h3, h4⟩
    · rw [List.getElem?_append_right (by rw [R.len]; exact hjn), R.len] at hj
      obtain rfl : j = n := by
        have := (List.getElem?_eq_some_iff.1 hj).1
        simp at this
        omega
      simp at hj
      subst hj
      have far : ∀ b, wr.heap.size ≤ b → some b ≠ cv.ownBlock := fun b h1 h2 => by have := (hlt b h2.symm).2; omega
      refine hQ _ _ w1 w3 j cs ?_ ?_ hv
      · rintro b (h | ⟨h1, h2⟩)
        · exact keep b (by omega) (low b (by omega))
        · exact keep b h2 (far b h1)
      · rintro b (h | ⟨h1, h2⟩)
        · exact .inl h
        · exact .inr ⟨by omega, by omega, gone b h2 (far b h1), by omega⟩
  · simp only [Value.ownBlock, ne_eq, Option.some.injEq]
    rcases hat with h | h
    · intro e
      exact R.nbx (by rw [h, e])
    · omega

theorem flat_in {z : Nat} {css : List (List Value)} (h : ∀ cs ∈ css, cs.length = z) : ∀ (j t : Nat) (cs : List Value), css[j]? = some cs → t < z → css.flatten[j * z + t]? = cs[t]? := by
  induction css with
  | nil => intro j t cs hj; simp at hj
  | cons c css ih =>
    intro j t cs hj ht
    have hc : c.length = z := h c (List.mem_cons_self ..)
    cases j with
    | zero =>
      simp at hj
      subst hj
      rw [List.flatten_cons, List.getElem?_append_left (by omega)]
      simp
    | succ j =>
      have e : (j + 1) * z + t = c.length + (j * z + t) := by rw [Nat.add_mul]; omega
      rw [List.flatten_cons, e, List.getElem?_append_right (by omega), Nat.add_sub_cancel_left]
      exact ih (fun cs hcs => h cs (List.mem_cons_of_mem _ hcs)) j t cs (by simpa using hj) ht

/-- The row is whole. -/
theorem PRow.whole {B m base bx : Nat} {T : TypeId} {z n : Nat} {Q : (Nat → Prop) → World → Nat → List Value → Prop} {cv : Value} {css : List (List Value)} {w : World} {S : Nat → Prop} (R : PRow B m base bx T z Q n cv css w) (hQ : QMov Q) (hzp : 0 < z)
    (hS : ∀ k, (k < B ∧ k ≠ m) ∨ (base ≤ k ∧ k < w.heap.size) → S k) : RowOf S w z n (fun j us => Q S w j us) cv := by
  have el : ∀ j, j < n → ∃ cs, css[j]? = some cs := fun j hj => ⟨css[j]'(by rw [R.len]; exact hj), List.getElem?_eq_getElem _⟩
  rcases R.own.2 with ⟨hv, h0⟩ | ⟨q, cap, cur, hv, hq, hh, hnc, hcm, _⟩
  · exact ⟨none, 0, by rw [hv, h0], by omega, by unfold maxLen; omega, fun j hj => absurd hj (by omega)⟩
  · refine ⟨some ⟨q, 0, none⟩, cap, hv, hnc, hcm, fun j hj => ?_⟩
    obtain ⟨cs, hcs⟩ := el j hj
    have hlen := R.wid cs (List.mem_of_getElem? hcs)
    refine ⟨q, cs, rfl, hS _ (.inr ⟨hq, blk_lt hh⟩), hlen, fun t u hu => ?_, hQ _ _ w w j cs (fun _ _ => rfl) (fun k hk => hS k (hk.imp id (fun h => ⟨h.1, h.2.1⟩))) (R.at_ j cs hcs)⟩
    have ht : t < z := by rw [← hlen]; exact (List.getElem?_eq_some_iff.1 hu).1
    have ho := R.own
    rw [hv] at ho
    have hlt : j * z + t < n * z := by
      have : (j + 1) * z ≤ n * z := Nat.mul_le_mul_right _ hj
      rw [Nat.add_mul] at this
      omega
    rw [ho.cellAt _ hlt, flat_in R.wid j t cs hcs ht]
    exact hu
theorem MapOk.same {P : Program} {k : TypeId} {w w1 : World} {m : Nat} (h : MapOk P k w m) (hb : ∀ k, k ≤ m → w1.heap[k]? = w.heap[k]?) : MapOk P k w1 m := by
  obtain ⟨⟨es, c, h1, h2⟩, hf⟩ := h
  exact ⟨⟨es, c, (hb m (Nat.le_refl _)).trans h1, h2⟩, hf.move (fun k hk => hb k (Nat.le_of_lt hk))⟩

/-- A slice in the make, in a variable that was made behind w, at its side. -/
structure PBox (w : World) (B m : Nat) (TS T : TypeId) (z : Nat) (Q : (Nat → Prop) → World → Nat → List Value → Prop) (n : Nat) (cv : Value) (css : List (List Value)) (wr : World) : Prop where
  box : wr.heap[w.heap.size + 1]? = some (.cells #[cv] TS (0, 0))
  row : PRow B m w.heap.size (w.heap.size + 1) T z Q n cv css wr
  grown : w.grownBy wr (some m)
  map : MapOk Tryz.prog 9 wr m
  size : w.heap.size + 2 ≤ wr.heap.size

theorem PBox.start {w : World} {B m : Nat} {TS T : TypeId} {z : Nat} {Q : (Nat → Prop) → World → Nat → List Value → Prop} (hm : MapOk Tryz.prog 9 w m) :
    PBox w B m TS T z Q 0 (.slice (some ⟨w.heap.size, 0, none⟩) 0 0) [] ((w.alloc (.cells #[] T)).alloc (.cells #[.slice (some ⟨w.heap.size, 0, none⟩) 0 0] TS)) := by
  have e1 : (w.alloc (.cells #[] T)).heap.size = w.heap.size + 1 := by simp
  have hb : Below w.heap.size w ((w.alloc (.cells #[] T)).alloc (.cells #[.slice (some ⟨w.heap.size, 0, none⟩) 0 0] TS)) := up_alloc (up_alloc (Below.refl _ _) _) _
  refine ⟨?_, ⟨(World.ownsRow_made w #[] 0 (Nat.le_refl _) (by unfold maxLen; omega) (by simp)).alloc _, rfl, (fun _ h => by cases h), (fun j cs h => by simp at h), by simp [Value.ownBlock]⟩, grown_below _ hb, ?_, by simp⟩
  · have := blk_new (w.alloc (.cells #[] T)) (.cells #[.slice (some ⟨w.heap.size, 0, none⟩) 0 0] TS)
    rw [e1] at this
    exact this
  · obtain ⟨⟨es, c, h1, h2⟩, hf⟩ := hm
    exact ⟨⟨es, c, blk_up h1 hb, h2⟩, hf.move (fun k hk => hb.block k (Nat.lt_trans hk (blk_lt h1)))⟩

theorem PBox.keep {w wr w1 : World} {B m : Nat} {TS T : TypeId} {z n : Nat} {Q : (Nat → Prop) → World → Nat → List Value → Prop} {cv : Value} {css : List (List Value)} (I : PBox w B m TS T z Q n cv css wr) (hQ : QMov Q) (hB : B ≤ w.heap.size) (hmB : m < B)
    (hk : wr.grownBy w1 (some m)) (hm : MapOk Tryz.prog 9 w1 m) : PBox w B m TS T z Q n cv css w1 := by
  have hz := I.size
  have hz1 := hk.size
  have same : ∀ k, k < wr.heap.size → k ≠ m → w1.heap[k]? = wr.heap[k]? := fun k h1 h2 => hk.block k h1 (by simpa using h2)
  refine ⟨(same _ (by omega) (by omega)).trans I.box, I.row.keep hQ hz1 (fun k h1 h2 => same k h1 ?_) (by omega), grown_trans I.grown hk, hm, by omega⟩
  rcases h2 with h | h
  · exact h.2
  · omega

/-- One element more. -/
theorem PBox.next {w wr w1 w3 : World} {B m : Nat} {TS T : TypeId} {z n gg cap : Nat} {Q : (Nat → Prop) → World → Nat → List Value → Prop} {cv : Value} {css : List (List Value)} {cs : List Value} {o : Obj} (I : PBox w B m TS T z Q n cv css wr) (hQ : QMov Q) (hB : B ≤ w.heap.size) (hmB : m < B)
    (hk : wr.grownBy w1 (some m)) (hm : MapOk Tryz.prog 9 w1 m) (hv : Q (SN B m wr.heap.size w1.heap.size) w1 n cs) (hl : cs.length = z)
    (hown3 : w3.ownsRow w.heap.size T z (.slice (some ⟨gg, 0, none⟩) (n + 1) cap) (n + 1) (css.flatten ++ cs)) (hgrow : (w1.alloc o).grownBy w3 cv.ownBlock) (hat : cv.ownBlock = some gg ∨ gg = w1.heap.size + 1) :
    PBox w B m TS T z Q (n + 1) (.slice (some ⟨gg, 0, none⟩) (n + 1) cap) (css ++ [cs]) (w3.setCell ⟨w.heap.size + 1, 0, none⟩ (.slice (some ⟨gg, 0, none⟩) (n + 1) cap)) := by
  have hz := I.size
  have hz1 := hk.size
  have hz3 := hgrow.size
  have hsz : (w1.alloc o).heap.size = w1.heap.size + 1 := by simp
  have hlt := I.row.own.lt
  have same : ∀ k, k < wr.heap.size → k ≠ m → w1.heap[k]? = wr.heap[k]? := fun k h1 h2 => hk.block k h1 (by simpa using h2)
  have old : ∀ k, k < w1.heap.size → some k ≠ cv.ownBlock → w3.heap[k]? = w1.heap[k]? := fun k h1 h2 => by
    rw [hgrow.block k (by omega) h2]
    exact Below.heap_alloc _ _ _ h1
  have low : ∀ k, k < w.heap.size → some k ≠ cv.ownBlock := fun k h1 h2 => by have := (hlt k h2.symm).1; omega
  have R := I.row.step hQ hB (by omega) (by omega) hz1 (fun k h1 h2 => same k h1 (by rcases h2 with h | h; exact h.2; omega)) hv hl hown3 hgrow hat
  have hfF : ∀ k, k ≠ w.heap.size + 1 → (w3.setCell ⟨w.heap.size + 1, 0, none⟩ (.slice (some ⟨gg, 0, none⟩) (n + 1) cap)).heap[k]? = w3.heap[k]? := fun k hk => Below.heap_setCell _ _ _ _ hk
  have hzF : (w3.setCell ⟨w.heap.size + 1, 0, none⟩ (.slice (some ⟨gg, 0, none⟩) (n + 1) cap)).heap.size = w3.heap.size := by simp [World.setCell]
  refine ⟨?_, R.keep hQ (by omega) (fun k h1 h2 => hfF k (by rcases h2 with h | h; omega; exact h.2)) (by omega), ?_, ?_, by omega⟩
  · have h := (old (w.heap.size + 1) (by omega) (fun e => I.row.nbx e.symm)).trans ((same _ (by omega) (by omega)).trans I.box)
    simp only [World.setCell, Array.getElem?_modify, if_true, h]
    rfl
  · refine ⟨hgrow.os.trans (hk.os.trans I.grown.os), hgrow.tape.trans (hk.tape.trans I.grown.tape), hgrow.output.trans (hk.output.trans I.grown.output), by omega, fun k h1 h2 => ?_⟩
    rw [hfF k (by omega), old k (by omega) (low k h1), same k (by omega) (by simpa using h2)]
    exact I.grown.block k h1 h2
  · exact hm.same (fun k hk => (hfF k (by omega)).trans (old k (by omega) (low k (by omega))))

/-- The slice is whole, and its variable's address goes out. -/
theorem PBox.whole {w wr : World} {B m : Nat} {TS T : TypeId} {z n : Nat} {Q : (Nat → Prop) → World → Nat → List Value → Prop} {cv : Value} {css : List (List Value)} (I : PBox w B m TS T z Q n cv css wr) (hQ : QMov Q) (hzp : 0 < z) :
    SlicePtr (SN B m w.heap.size wr.heap.size) wr z n (fun j us => Q (SN B m w.heap.size wr.heap.size) wr j us) (.pointer (some ⟨w.heap.size + 1, 0, none⟩)) := by
  have hz := I.size
  exact ⟨w.heap.size + 1, cv, rfl, .inr ⟨by omega, by omega⟩, (blk_cell I.box 0).trans rfl, I.row.whole hQ hzp (fun k h => h)⟩
end Go.Proofs.YthdnkcofcbinhaaGreatDoor
