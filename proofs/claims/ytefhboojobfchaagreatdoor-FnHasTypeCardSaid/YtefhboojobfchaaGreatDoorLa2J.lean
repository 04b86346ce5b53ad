/- HasType; the law's walk: whatever the arguments, true; and nothing that was there has changed. -/
import Derived.Test.YtefhboojobfchaaGreatDoorHtJ
import Derived.Test.YtefhboojobfchaaGreatDoorIs4J
import Derived.Test.YtefhboojobfchaaGreatDoorNaJ
import Derived.Test.YtefhboojobfchaaGreatDoorRgJ
import Derived.Test.YtefhboojobfchaaGreatDoorRiJ
import Derived.Test.YtefhboojobfchaaGreatDoorSp1J
set_option linter.unusedVariables false
set_option linter.unusedSimpArgs false
namespace Go.Proofs.YtefhboojobfchaaGreatDoor
open Go.RowKit

/-- One schema and one word: one answer. -/
theorem HT.one {v : Dat} {t : ByteArray} (hu : KeysTo v v.keys.length) {r s : Bool} (h : HT v t r) (k : HT v t s) : r = s := by
  have uniq : ∀ (i j : Nat) (hi : i < v.keys.length) (hj : j < v.keys.length), v.keys[i] = v.keys[j] → i = j := by
    intro i j hi hj e
    obtain ⟨f, hf⟩ : ∃ f : Nat → ByteArray, ∀ a (ha : a < v.keys.length), f a = v.keys[a] := ⟨fun a => if h : a < v.keys.length then v.keys[a] else ⟨#[]⟩, fun a ha => by simp [ha]⟩
    have R := keys_rise hu f hf
    have e1 : f i = f j := by rw [hf i hi, hf j hj, e]
    have r1 := R i j hi hj
    have r2 := R j j hj hj
    have r3 := R j i hj hi
    rw [e1] at r1 r3
    rw [r2] at r1 r3
    simp at r1 r3
    omega
  have bool : ∀ {P : Prop}, (r = true ↔ P) → (s = true ↔ P) → r = s := by
    intro P h1 h2
    cases r <;> cases s
    · rfl
    · exact absurd (h1.2 (h2.1 rfl)) (by simp)
    · exact absurd (h2.2 (h1.1 rfl)) (by simp)
    · rfl
  rcases h with ⟨i, hi, hi', ke, h⟩ | ⟨hn, rfl⟩
  · rcases k with ⟨j, hj, hj', kf, k⟩ | ⟨kn, -⟩
    · obtain rfl : i = j := uniq i j hi hj (ke.trans kf.symm)
      rcases h with ⟨h3, h⟩ | ⟨h4, h⟩
      · rcases k with ⟨-, k⟩ | ⟨k4, -⟩
        · rw [h, k]
        · omega
      · rcases k with ⟨k3, -⟩ | ⟨-, k⟩
        · omega
        · exact bool h k
    · exact absurd ke (kn i hi)
  · rcases k with ⟨j, hj, hj', kf, k⟩ | ⟨kn, rfl⟩
    · exact absurd kf (hn j hj)
    · rfl

set_option maxHeartbeats 1000000 in
theorem impl_HasType (D : Nat) (v : Dat) (t : ByteArray) (w : World) (cs : List Value) (hv : VA w v cs) (hT : Tab w) (hF : FT w.heap.size w) (hp : Plain D v) (hsh : IsShp v) :
    Calls Tryz.prog 6 #[.agg cs.toArray, .string t] w (GivesHT v t w) := by
  have HSC := Lib.hid (fun W (hb : Below w.heap.size w W) => schemaOf_any D v W cs (hv.up hb) (hT.up hb) ((hF.move (fun k hk => hb.block k hk)).wide hb.size) hp hsh)
  obtain ⟨ka, ia, kc, ic, rfl, -⟩ := hv.inv
  clear hv hT hp hsh hF
  go_enter Tryz.func6, Tryz.ntmps6
  go_wp2_with fail
  go_at_call 11
  refine (HSC.out _ (up_alloc (Below.refl _ _) _)).mono ?_
  rintro e w1 ⟨b, S, rfl, hs, hb⟩
  have HB1 := Lib.hid (up_trans (up_alloc (Below.refl w.heap.size w) _) hb)
  have HS := Lib.hid hs
  clear hs hb
  go_wp2_with fail
  go_at_call 12
  refine (TypeIs_any S D b v t w1 HS.out).mono ?_
  rintro e w2 ⟨r, rfl, hr, hb⟩
  have HB2 := Lib.hid (up_trans HB1.out hb)
  have HR := Lib.hid hr
  clear hr hb
  go_wp2
  go_ret
  exact ⟨r, rfl, HR.out, HB2.out⟩
set_option maxRecDepth 100000 in
set_option maxHeartbeats 2000000 in
theorem law_any (v : Dat) (t : ByteArray) (w : World) (cs : List Value) (hv : VA w v cs) (hT : Tab w) (hF : FT w.heap.size w) (ht : t.size ≤ 9223372036854775807) :
    Calls Tryz.prog 3 #[.agg cs.toArray, .string t] w fun e w' => e = .returned (.bool true) ∧ Below w.heap.size w w' := by
  have H1 := Lib.hid (fun W (hb : Below w.heap.size w W) => zzFits1_any v cs W (hv.up hb))
  have H2 := Lib.hid (fun W (hb : Below w.heap.size w W) => IsSchema_any v W cs (hv.up hb))
  have H3 := Lib.hid (fun W (hb : Below w.heap.size w W) (hs : Plain 12 v ∧ Shp 13 v) => impl_HasType 12 v t W cs (hv.up hb) (hT.up hb) ((hF.move (fun k hk => hb.block k hk)).wide hb.size) hs.1 ⟨13, hs.2⟩)
  have H4 := Lib.hid (fun W (hb : Below w.heap.size w W) (hs : Plain 12 v ∧ Shp 13 v) => HasType_any v t W cs (hv.up hb) (keys_apart hs.1 hs.2.1).1 ⟨13, hs.2⟩)
  obtain ⟨ka, ia, kc, ic, rfl, -⟩ := hv.inv
  clear hv hT hF
  go_enter Tryz.func3, Tryz.ntmps3
  go_wp2_with fail
  go_at_call 4
  refine (H1.out _ (up_alloc (Below.refl _ _) _)).mono ?_
  rintro e w1 ⟨b, rfl, _, hb⟩
  have HB1 := Lib.hid (up_trans (up_alloc (Below.refl w.heap.size w) _) hb)
  have HX1 := Lib.hid (blk_up (blk_new w _) hb)
  clear hb
  cases b
  · go_wp2
    go_ret
    exact ⟨rfl, HB1.out⟩
  have q0 : w1.cell? ⟨w.heap.size, 0, none⟩ = some (.int .i64 v.kind) := (blk_cell HX1.out 0).trans rfl
  have q1 : w1.cell? ⟨w.heap.size, 1, none⟩ = some (.int .i64 v.num) := (blk_cell HX1.out 1).trans rfl
  have q2 : w1.cell? ⟨w.heap.size, 2, none⟩ = some (.string v.text) := (blk_cell HX1.out 2).trans rfl
  have q3 : w1.cell? ⟨w.heap.size, 3, none⟩ = some (.slice ka v.keys.length kc) := (blk_cell HX1.out 3).trans rfl
  have q4 : w1.cell? ⟨w.heap.size, 4, none⟩ = some (.slice ia v.items.length ic) := (blk_cell HX1.out 4).trans rfl
  by_cases hbig : (2147483647 : Int) < (t.size : Int)
  · go_wp2
    go_ret
    exact ⟨rfl, HB1.out⟩
  go_wp2_with fail
  go_at_call 5
  refine (H2.out _ HB1.out).mono ?_
  rintro e w2 ⟨b, rfl, hs, hb⟩
  have HB2 := Lib.hid (up_trans HB1.out hb)
  have HX2 := Lib.hid (blk_up HX1.out hb)
  have HS := Lib.hid hs
  clear hb hs q0 q1 q2 q3 q4
  cases b
  · go_wp2
    go_ret
    exact ⟨rfl, HB2.out⟩
  have HSH := Lib.hid (HS.out rfl)
  have q0 : w2.cell? ⟨w.heap.size, 0, none⟩ = some (.int .i64 v.kind) := (blk_cell HX2.out 0).trans rfl
  have q1 : w2.cell? ⟨w.heap.size, 1, none⟩ = some (.int .i64 v.num) := (blk_cell HX2.out 1).trans rfl
  have q2 : w2.cell? ⟨w.heap.size, 2, none⟩ = some (.string v.text) := (blk_cell HX2.out 2).trans rfl
  have q3 : w2.cell? ⟨w.heap.size, 3, none⟩ = some (.slice ka v.keys.length kc) := (blk_cell HX2.out 3).trans rfl
  have q4 : w2.cell? ⟨w.heap.size, 4, none⟩ = some (.slice ia v.items.length ic) := (blk_cell HX2.out 4).trans rfl
  have hz2 : w.heap.size < w2.heap.size := blk_lt HX2.out
  go_upto_region 5 with fail
  go_region_law (first
    | (go_simp
       go_at_call 6
       refine (H3.out _ (up_drew HB2.out) HSH.out).mono ?_
       rintro e w3 ⟨r3, rfl, hr3, hb3⟩
       have HB3 := Lib.hid (up_trans (up_drew HB2.out) hb3)
       have HX3 := Lib.hid (blk_up HX2.out (up_trans (up_drew (Below.refl _ _)) hb3))
       have HR3 := Lib.hid hr3
       clear hb3 hr3
       have y0 : w3.cell? ⟨w.heap.size, 0, none⟩ = some (.int .i64 v.kind) := (blk_cell HX3.out 0).trans rfl
       have y1 : w3.cell? ⟨w.heap.size, 1, none⟩ = some (.int .i64 v.num) := (blk_cell HX3.out 1).trans rfl
       have y2 : w3.cell? ⟨w.heap.size, 2, none⟩ = some (.string v.text) := (blk_cell HX3.out 2).trans rfl
       have y3 : w3.cell? ⟨w.heap.size, 3, none⟩ = some (.slice ka v.keys.length kc) := (blk_cell HX3.out 3).trans rfl
       have y4 : w3.cell? ⟨w.heap.size, 4, none⟩ = some (.slice ia v.items.length ic) := (blk_cell HX3.out 4).trans rfl)
    | (go_simp
       go_at_call 7
       refine (H4.out _ HB3.out HSH.out).mono ?_
       rintro e w4 ⟨r4, rfl, hr4, hb4⟩
       have HB4 := Lib.hid (up_trans HB3.out hb4)
       have he : r4 = r3 := (HT.one (keys_apart HSH.out.1 HSH.out.2.1).2 HR3.out hr4).symm
       clear hb4 hr4
       subst he))
  all_goals
    go_wp2
    go_ret
    exact ⟨rfl, HB4.out⟩
end Go.Proofs.YtefhboojobfchaaGreatDoor
