/- Schema.TypeIs, of a schema that was read. -/
import Derived.Test.YtefhboojobfchaaGreatDoorScJ
import Derived.Test.YtefhboojobfchaaGreatDoorSp4bJ
set_option linter.unusedVariables false
set_option linter.unusedSimpArgs false
namespace Go.Proofs.YtefhboojobfchaaGreatDoor
open Go.RowKit

/-- Whether what stands under the key 'type' names a type. -/
def HT (v : Dat) (t : ByteArray) (r : Bool) : Prop :=
  (∃ (i : Nat) (_ : i < v.keys.length) (h' : i < v.items.length), v.keys[i] = kType ∧
    ((v.items[i].kind = 3 ∧ r = (v.items[i].text.toList == t.toList)) ∨ (v.items[i].kind = 4 ∧ (r = true ↔ ∃ (j : Nat) (h : j < v.items[i].items.length), v.items[i].items[j].text = t)))) ∨
  ((∀ (i : Nat) (_ : i < v.keys.length), v.keys[i] ≠ kType) ∧ r = false)
theorem HT.word {v : Dat} {t : ByteArray} {i : Nat} (h : i < v.keys.length) (h' : i < v.items.length) (hkey : v.keys[i] = kType) {x : Dat} (hx : v.items[i] = x) (h0 : x.kind = 3) : HT v t (x.text.toList == t.toList) := by
  subst hx
  exact .inl ⟨i, h, h', hkey, .inl ⟨h0, rfl⟩⟩
theorem HT.words {v : Dat} {t : ByteArray} {i : Nat} (h : i < v.keys.length) (h' : i < v.items.length) (hkey : v.keys[i] = kType) {x : Dat} (hx : v.items[i] = x) (h0 : x.kind = 4) {r : Bool} (hr : r = true ↔ ∃ (j : Nat) (h : j < x.items.length), x.items[j].text = t) : HT v t r := by
  subst hx
  exact .inl ⟨i, h, h', hkey, .inr ⟨h0, hr⟩⟩
def GivesHT (v : Dat) (t : ByteArray) (w : World) (e : Ending) (w' : World) : Prop := ∃ r, e = .returned (.bool r) ∧ HT v t r ∧ Below w.heap.size w w'

set_option maxHeartbeats 1000000 in
theorem TypeIs_any (S : Nat → Prop) (D b : Nat) (v : Dat) (t : ByteArray) (w : World) (hS : Sch S w (D + 1) v b) :
    Calls Tryz.prog 12 #[.pointer (some ⟨b, 0, none⟩), .string t] w (GivesHT v t w) := by
  obtain ⟨hs, hk, cs, hh, hz, h4, h5, hf⟩ := hS
  obtain ⟨f, hf27, ha⟩ := hf (kType, 12, 27) (by unfold kws; simp) (by decide)
  have c27 : w.cell? ⟨b, 27, none⟩ = some f := (blk_cell hh 27).trans hf27
  clear hf hf27 hh hs
  rcases ha with ⟨i, h, h', hkey, hok⟩ | ⟨hno, rfl⟩
  · have HL := Lib.hid h
    have HL' := Lib.hid h'
    have HKEY := Lib.hid hkey
    clear hkey
    obtain ⟨x, hx⟩ : ∃ x, v.items[i] = x := ⟨_, rfl⟩
    have HX := Lib.hid hx
    replace hok : FieldOk S w (Sch S w D) 12 x f := by rw [← hx]; exact hok
    clear hx
    obtain ⟨b2, rfl, -, ⟨h0, g, hh2, b3, o, rfl, -, hc⟩ | ⟨h0, g, hh2, b3, sv, rfl, -, hsv, A, c, rfl, hnc, hcm, hel⟩⟩ := hok
    · have d0 : w.cell? ⟨b2, 0, none⟩ = some (.pointer (some ⟨b3, o, none⟩)) := (blk_cell hh2 0).trans rfl
      have d1 : w.cell? ⟨b2, 1, none⟩ = some (.pointer none) := (blk_cell hh2 1).trans rfl
      have H0 := Lib.hid h0
      clear hh2 h0
      go_enter Tryz.func12, Tryz.ntmps12
      go_wp2
      go_ret
      exact ⟨_, rfl, HT.word HL.out HL'.out HKEY.out HX.out H0.out, Below.refl _ _⟩
    · have d0 : w.cell? ⟨b2, 0, none⟩ = some (.pointer none) := (blk_cell hh2 0).trans rfl
      have d1 : w.cell? ⟨b2, 1, none⟩ = some (.pointer (some ⟨b3, 0, none⟩)) := (blk_cell hh2 1).trans rfl
      have H0 := Lib.hid h0
      have HEL := Lib.hid hel
      unfold maxLen at hcm
      clear hh2 h0 hel
      go_enter Tryz.func12, Tryz.ntmps12
      go_wp2
      go_loopg [49] x.items.length (fun gk v49 wr => ∃ p : Nat, v49 = .int .i64 p ∧ p + gk = x.items.length ∧ Hid (∀ j (h : j < x.items.length), j < p → x.items[j].text ≠ t) ∧ wr = w)
      case atStart => exact ⟨0, rfl, by omega, Lib.hid (fun _ _ h => absurd h (Nat.not_lt_zero _)), rfl⟩
      case round =>
        obtain ⟨p, rfl, hp, HJ, rfl⟩ := hrel
        by_cases hlt : p < x.items.length
        · obtain ⟨g, us, rfl, -, hl, hcell, hp', rfl⟩ := HEL.out p hlt
          have hc' := hcell 0 _ rfl
          rw [Nat.mul_one, Nat.add_zero] at hc'
          obtain ⟨s, hs⟩ : ∃ s, x.items[p].text = s := ⟨_, rfl⟩
          rw [hs] at hc'
          have HS := Lib.hid hs
          clear hs hl hcell
          rcases bytes_or s t with ⟨b1, b2⟩ | ⟨b1, b2⟩
          · have B2 := Lib.hid b2
            clear b2
            go_wp2
            go_ret
            exact ⟨_, rfl, HT.words HL.out HL'.out HKEY.out HX.out H0.out ⟨fun _ => ⟨p, hlt, HS.out.trans B2.out⟩, fun _ => rfl⟩, Below.refl _ _⟩
          · have B2 := Lib.hid b2
            clear b2
            go_wp2
            go_roundg (x.items.length - (p + 1))
            case measure => omega
            case rel =>
              refine ⟨p + 1, by go_num, by omega, Lib.hid (fun j hj hji => ?_), rfl⟩
              rcases Nat.lt_or_ge j p with h | h
              · exact HJ.out j hj h
              · obtain rfl : j = p := by omega
                exact fun e => B2.out (HS.out.symm.trans e)
        · have hall : p = x.items.length := by omega
          have HE := Lib.hid hall
          clear hall
          go_wp2
          go_ret
          exact ⟨_, rfl, HT.words HL.out HL'.out HKEY.out HX.out H0.out ⟨fun h => (by cases h), fun ⟨j, hj, e⟩ => absurd e (HJ.out j hj (by have := HE.out; omega))⟩, Below.refl _ _⟩
  · have HN := Lib.hid hno
    clear hno
    go_enter Tryz.func12, Tryz.ntmps12
    go_wp2
    go_ret
    exact ⟨_, rfl, .inr ⟨HN.out, rfl⟩, Below.refl _ _⟩
end Go.Proofs.YtefhboojobfchaaGreatDoor
