/- The reference's HasType. -/
import Derived.Test.YtefhboojobfchaaGreatDoorHsJ
import Derived.Test.YtefhboojobfchaaGreatDoorNs4J
set_option linter.unusedVariables false
set_option linter.unusedSimpArgs false
namespace Go.Proofs.YtefhboojobfchaaGreatDoor
open Go.RowKit

theorem IsShp.typed {v : Dat} (hsh : IsShp v) {j : Nat} (hj : j < v.keys.length) (hj' : j < v.items.length) (hkey : v.keys[j] = kType) : v.items[j].kind = 3 ∨ v.items[j].kind = 4 := by
  have h := hsh.fit hj hj'
  rw [hkey, shapeN_kType] at h
  exact h.imp id (fun h => h.1)
theorem HT.none {v : Dat} {t : ByteArray} (h : ∀ (j : Nat) (_ : j < v.keys.length), v.keys[j] ≠ kType) {r : Bool} (hr : r = true ↔ ∃ (j : Nat) (h : j < ([] : List Dat).length), ([] : List Dat)[j].text = t) : HT v t r := by
  refine .inr ⟨h, ?_⟩
  cases r
  · rfl
  · obtain ⟨j, hj, -⟩ := hr.1 rfl
    exact absurd hj (Nat.not_lt_zero _)
theorem VA.zero (w : World) : VA w (.mk 0 0 ⟨#[]⟩ [] []) zero5 :=
  VA.mk 0 0 ⟨#[]⟩ [] [] none none 0 0 (fun _ => []) (by decide) (fun i hi => absurd hi (Nat.not_lt_zero _)) (Nat.le_refl _) (by decide) (Nat.le_refl _) (by decide) (fun i hi => absurd hi (Nat.not_lt_zero _)) (fun i hi => absurd hi (Nat.not_lt_zero _))

set_option maxHeartbeats 2000000 in
theorem HasType_any (v : Dat) (t : ByteArray) (w : World) (cs : List Value) (hv : VA w v cs) (hkl : v.keys.length = v.items.length) (hsh : IsShp v) :
    Calls Tryz.prog 7 #[.agg cs.toArray, .string t] w (GivesHT v t w) := by
  have HG := Lib.hid (fun W (hb : Below w.heap.size w W) => Get_any v kType W cs (hv.up hb) hkl)
  unfold kType at HG
  obtain ⟨ka, ia, kc, ic, rfl, -⟩ := hv.inv
  have HSH := Lib.hid hsh
  clear hv hkl hsh
  go_enter Tryz.func7, Tryz.ntmps7
  go_wp2_with fail
  go_at_call 13
  refine (HG.out _ (up_alloc (Below.refl _ _) _)).mono ?_
  rintro e w1 ⟨b0, b1, b2, b3, b4, r, rfl, hb, hg⟩
  have HB1 := Lib.hid (up_trans (up_alloc (Below.refl w.heap.size w) _) hb)
  clear hb
  have pack : ∃ x, VA w1 x [b0, b1, b2, b3, b4] ∧ ((Hid (x.kind = 3) ∧ Hid (HT v t (x.text.toList == t.toList))) ∨ ((x.kind == 3) = false ∧ Hid (∀ r : Bool, (r = true ↔ ∃ (j : Nat) (h : j < x.items.length), x.items[j].text = t) → HT v t r))) := by
    rcases hg with ⟨j, hj, hj', hkey, hx⟩ | ⟨hno, hz⟩
    · refine ⟨_, hx, ?_⟩
      rcases HSH.out.typed hj hj' hkey with h3 | h4
      · exact .inl ⟨Lib.hid h3, Lib.hid (HT.word hj hj' hkey rfl h3)⟩
      · exact .inr ⟨by rw [h4]; rfl, Lib.hid (fun r hr => HT.words hj hj' hkey rfl h4 hr)⟩
    · refine ⟨.mk 0 0 ⟨#[]⟩ [] [], by rw [hz]; exact VA.zero w1, .inr ⟨rfl, Lib.hid (fun r hr => HT.none hno hr)⟩⟩
  clear hg
  obtain ⟨x, hx, hcase⟩ := pack
  obtain ⟨ka2, ia2, kc2, ic2, hsh2, -, -, -, -, hic2, him2, hit2⟩ := hx.inv
  injection hsh2 with e0 hsh2
  injection hsh2 with e1 hsh2
  injection hsh2 with e2 hsh2
  injection hsh2 with e3 hsh2
  injection hsh2 with e4 hsh2
  subst e0 e1 e2 e3 e4
  have HIT := Lib.hid hit2
  clear hx hit2 hsh2
  rcases hcase with ⟨h3, hr⟩ | ⟨hn3, hr⟩
  · have e3 := h3.out
    rw [e3]
    clear e3
    go_wp2
    go_ret
    exact ⟨_, rfl, hr.out, up_alloc HB1.out _⟩
  · have hz1 := HB1.out.size
    go_wp2
    go_loopg [24] x.items.length (fun gk v24 wr => ∃ p : Nat, v24 = .int .i64 p ∧ p + gk = x.items.length ∧ Hid (∀ j (h : j < x.items.length), j < p → x.items[j].text ≠ t) ∧ Hid (Below w1.heap.size w1 wr))
    case atStart => exact ⟨0, rfl, by omega, Lib.hid (fun _ _ h => absurd h (Nat.not_lt_zero _)), Lib.hid (up_alloc (Below.refl _ _) _)⟩
    case round =>
      obtain ⟨p, rfl, hp, HJ, HB⟩ := hrel
      by_cases hlt : p < x.items.length
      · obtain ⟨b, o, ka', ia', kc', ic', hb, h0, h1, h2, h3, h4, -⟩ := HIT.out p hlt
        cases hb
        have i0 := cell_up HB.out _ _ h0
        have i1 := cell_up HB.out _ _ h1
        have i2 := cell_up HB.out _ _ h2
        have i3 := cell_up HB.out _ _ h3
        have i4 := cell_up HB.out _ _ h4
        clear h0 h1 h2 h3 h4
        obtain ⟨y, hy⟩ : ∃ y, x.items[p] = y := ⟨_, rfl⟩
        rw [hy] at i0 i1 i2 i3 i4
        have HY := Lib.hid hy
        clear hy
        rcases bytes_or y.text t with ⟨b1, b2⟩ | ⟨b1, b2⟩
        · have B2 := Lib.hid b2
          clear b2
          go_wp2
          go_ret
          exact ⟨_, rfl, hr.out _ ⟨fun _ => ⟨p, hlt, by rw [HY.out]; exact B2.out⟩, fun _ => rfl⟩, up_trans HB1.out (up_alloc HB.out _)⟩
        · have B2 := Lib.hid b2
          clear b2
          go_wp2
          go_roundg (x.items.length - (p + 1))
          case measure => omega
          case rel =>
            refine ⟨p + 1, by go_num, by omega, Lib.hid (fun j hj hji => ?_), Lib.hid (up_alloc HB.out _)⟩
            rcases Nat.lt_or_ge j p with h | h
            · exact HJ.out j hj h
            · obtain rfl : j = p := by omega
              rw [HY.out]
              exact B2.out
      · have hall : p = x.items.length := by omega
        have HE := Lib.hid hall
        clear hall
        go_wp2
        go_ret
        exact ⟨_, rfl, hr.out _ ⟨fun h => (by cases h), fun ⟨j, hj, e⟩ => absurd e (HJ.out j hj (by have := HE.out; omega))⟩, up_trans HB1.out HB.out⟩
end Go.Proofs.YtefhboojobfchaaGreatDoor
