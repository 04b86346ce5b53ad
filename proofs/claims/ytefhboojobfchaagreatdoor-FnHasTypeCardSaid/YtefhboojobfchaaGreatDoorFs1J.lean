/- Values that are schemas: the plain words (no program's steps here). -/
import Derived.Test.YtefhboojobfchaaGreatDoorKwJ
import Derived.Test.YtefhboojobfchaaGreatDoorSp2J
set_option linter.unusedVariables false
set_option linter.unusedSimpArgs false
namespace Go.Proofs.YtefhboojobfchaaGreatDoor
open Go.RowKit

/-- What fits tells of a keyword's value. -/
def FitN (P : Dat → Prop) (code : Nat) (x : Dat) : Prop :=
  match code with
  | 1 => x.kind = 3
  | 2 => x.kind = 1
  | 3 => x.kind = 2 ∨ x.kind = 6
  | 4 => x.kind = 2 ∧ 0 ≤ x.num
  | 5 => P x
  | 6 => x.kind = 1 ∨ P x
  | 7 => P x ∨ (x.kind = 4 ∧ ∀ i (h : i < x.items.length), P x.items[i])
  | 8 => x.kind = 4 ∧ ∀ i (h : i < x.items.length), x.items[i].kind = 3
  | 9 => x.kind = 5 ∧ ∀ i (h : i < x.items.length), P x.items[i]
  | 10 => x.kind = 5 ∧ ∀ i (h : i < x.items.length), x.items[i].kind = 4 ∧ ∀ j (h' : j < x.items[i].items.length), x.items[i].items[j].kind = 3
  | 11 => x.kind = 4 ∧ ∀ i (h : i < x.items.length), x.items[i].kind = 3 ∨ x.items[i].kind = 1
  | 12 => x.kind = 3 ∨ (x.kind = 4 ∧ ∀ i (h : i < x.items.length), x.items[i].kind = 3)
  | 13 => x.kind = 4 ∧ ∀ i (h : i < x.items.length), P x.items[i]
  | _ => True

theorem FitN.mono {P Q : Dat → Prop} {code : Nat} {x : Dat} (hx : P x → Q x) (hi : ∀ i (h : i < x.items.length), P x.items[i] → Q x.items[i]) (h : FitN P code x) : FitN Q code x := by
  unfold FitN at *
  split at h
  · exact h
  · exact h
  · exact h
  · exact h
  · exact hx h
  · exact h.imp id hx
  · exact h.imp hx (fun h => ⟨h.1, fun i hl => hi i hl (h.2 i hl)⟩)
  · exact h
  · exact ⟨h.1, fun i hl => hi i hl (h.2 i hl)⟩
  · exact h
  · exact h
  · exact h
  · exact ⟨h.1, fun i hl => hi i hl (h.2 i hl)⟩
  · exact h

/-- A schema of at most so many levels. -/
def Shp : Nat → Dat → Prop
  | 0, _ => False
  | d + 1, v => v.kind = 5 ∧ ∀ i (h : i < v.keys.length) (h' : i < v.items.length), FitN (Shp d) (shapeN v.keys[i]) v.items[i] ∧ (v.keys[i] = kId → ∃ j, ∃ h : j < v.keys.length, v.keys[j] = kSSchema)

theorem Shp.succ : ∀ (d : Nat) (v : Dat), Shp d v → Shp (d + 1) v
  | 0, _, h => h.elim
  | d + 1, v, h => ⟨h.1, fun i hk hi => ⟨(h.2 i hk hi).1.mono (fun h => Shp.succ d _ h) (fun j hj h => Shp.succ d _ h), (h.2 i hk hi).2⟩⟩
theorem Shp.mono {d e : Nat} (h : d ≤ e) {v : Dat} (hv : Shp d v) : Shp e v := by
  induction e with
  | zero => obtain rfl : d = 0 := by omega
            exact hv
  | succ e ih =>
    rcases Nat.lt_or_ge d (e + 1) with h1 | h1
    · exact Shp.succ e v (ih (by omega))
    · obtain rfl : d = e + 1 := by omega
      exact hv

/-- The keys of plain data differ. -/
theorem keys_apart {D : Nat} {v : Dat} (hp : Plain D v) (hk : v.kind = 5) : v.keys.length = v.items.length ∧ KeysTo v v.keys.length := by
  have flat : ¬ Flat v := by
    rintro (h | h | h | h | h) <;> · have := h.1; omega
  cases D with
  | zero => exact absurd hp flat
  | succ D =>
    rcases hp with h | h | h
    · exact absurd h flat
    · have := h.1; omega
    · exact ⟨h.2.2.2.1, h.2.2.2.2.2.1⟩
end Go.Proofs.YtefhboojobfchaaGreatDoor
