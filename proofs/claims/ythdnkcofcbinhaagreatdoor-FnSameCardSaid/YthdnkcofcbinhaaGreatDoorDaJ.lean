/- describeSchema: its sections, one behind the other. -/
import Derived.Test.YthdnkcofcbinhaaGreatDoorDhJ
import Derived.Test.YthdnkcofcbinhaaGreatDoorDnJ
import Derived.Test.YthdnkcofcbinhaaGreatDoorKiJ
import Derived.Test.YthdnkcofcbinhaaGreatDoorRiJ
import Derived.Test.YthdnkcofcbinhaaGreatDoorXaJ
import Derived.Test.YthdnkcofcbinhaaGreatDoorXbJ
import Derived.Test.YthdnkcofcbinhaaGreatDoorXcJ
import Derived.Test.YthdnkcofcbinhaaGreatDoorXdJ
import Derived.Test.YthdnkcofcbinhaaGreatDoorXeJ
set_option linter.unusedVariables false
set_option linter.unusedSimpArgs false
namespace Go.Proofs.YthdnkcofcbinhaaGreatDoor
open Go.RowKit

theorem keys_uniq {v : Dat} (h : KeysTo v v.keys.length) {i j : Nat} (hi : i < v.keys.length) (hj : j < v.keys.length) (e : v.keys[i] = v.keys[j]) : i = j := by
  obtain ⟨f, hf⟩ : ∃ f : Nat → ByteArray, ∀ a (ha : a < v.keys.length), f a = v.keys[a] := ⟨fun a => if h : a < v.keys.length then v.keys[a] else ⟨#[]⟩, fun a ha => by simp [ha]⟩
  have R := keys_rise h f hf
  have e1 : f i = f j := by rw [hf i hi, hf j hj, e]
  have r1 := R i j hi hj
  have r2 := R j j hj hj
  have r3 := R j i hj hi
  rw [e1] at r1 r3
  rw [r2] at r1 r3
  simp at r1 r3
  omega
theorem atP_none {key : ByteArray} : ∀ l : List (ByteArray × Dat), (∀ p ∈ l, p.1 ≠ key) → atP key l = none
  | [], _ => rfl
  | p :: ps, h => by
    unfold atP
    rw [if_neg (h p (List.mem_cons_self ..))]
    exact atP_none ps (fun q hq => h q (List.mem_cons_of_mem _ hq))
theorem atP_some {key : ByteArray} : ∀ l : List (ByteArray × Dat), (∃ p ∈ l, p.1 = key) → ∃ x, atP key l = some x
  | [], ⟨_, h, _⟩ => by cases h
  | p :: ps, ⟨q, hq, e⟩ => by
    unfold atP
    by_cases hp : p.1 = key
    · exact ⟨p.2, by rw [if_pos hp]⟩
    · rw [if_neg hp]
      refine atP_some ps ⟨q, ?_, e⟩
      rcases List.mem_cons.1 hq with rfl | h
      · exact absurd e hp
      · exact h
/-- A keyword's field, by the value of its key. -/
theorem field_o {S : Nat → Prop} {w : World} {R : Dat → Nat → Prop} {code : Nat} {v : Dat} {key : ByteArray} {f : Value} (hu : KeysTo v v.keys.length) (h : FieldAt v key (FieldOk S w R code) f) : FieldO S w R code (atD v key) f := by
  rcases h with ⟨i, h1, h2, hk, hok⟩ | ⟨hn, rfl⟩
  · obtain ⟨x, hx⟩ := atP_some (key := key) (pairs v) ⟨(v.keys[i], v.items[i]), List.mem_of_getElem? (pairs_get h1 h2), hk⟩
    have hx2 : atD v key = some x := hx
    obtain ⟨j, g1, g2, gk, gx⟩ := atD_place hx2
    obtain rfl := keys_uniq hu h1 g1 (hk.trans gk.symm)
    rw [hx2]
    show FieldOk S w R code x f
    rw [← gx]
    exact hok
  · have : atD v key = none := atP_none _ (fun p hp e => by
      obtain ⟨i, hi, e2⟩ := List.getElem_of_mem (List.of_mem_zip hp).1
      exact hn i hi (e2.trans e))
    rw [this]
    rfl

section
variable {E F : Nat} {v : Dat} {key : ByteArray} {x : Dat}
theorem at_plain (hp : Plain E v) (h : atD v key = some x) : ∃ E', E' + 1 = E ∧ Plain E' x := by
  obtain ⟨i, h1, h2, -, rfl⟩ := atD_place h
  exact hp.item h2
theorem at_fit (hs : IsShp v) (h : atD v key = some x) : FitN IsShp (shapeN key) x := by
  obtain ⟨i, h1, h2, hk, rfl⟩ := atD_place h
  have := hs.fit h1 h2
  rwa [hk] at this
theorem at_kid (h : atD v key = some x) : ∀ y ∈ kidsD (shapeN key) x, y ∈ kidsOf v := by
  intro y hy
  obtain ⟨p, hp, rfl, rfl⟩ := atP_mem _ h
  unfold kidsOf
  exact List.mem_flatMap.2 ⟨p, hp, hy⟩
theorem at_bad (hc : ∀ k ∈ v.keys, k ∉ badKeys) (hb : key ∈ badKeys) : atD v key = none :=
  atP_none _ (fun p hp e => hc p.1 (List.of_mem_zip hp).1 (by rw [e]; exact hb))
end

theorem joinT_small {sep : List UInt8} (hs : sep.length ≤ 2) (xs : List Dat) (h : ∀ y ∈ xs, y.text.size ≤ 200) : (joinT sep xs).length ≤ 202 * xs.length := by
  have tail : ∀ ys : List Dat, (∀ y ∈ ys, y.text.size ≤ 200) → (Lib.joinTail sep (ys.map fun x => bs x.text)).length ≤ 202 * ys.length := by
    intro ys
    induction ys with
    | nil => intro _; simp [Lib.joinTail]
    | cons y ys ih =>
      intro h
      have h1 := h y (List.mem_cons_self ..)
      have h2 := ih (fun z hz => h z (List.mem_cons_of_mem _ hz))
      have e : (bs y.text).length = y.text.size := rfl
      simp only [Lib.joinTail, List.map_cons, List.flatten_cons, List.length_append, List.length_cons] at h2 ⊢
      omega
  cases xs with
  | nil => simp [joinT, Lib.join_nil]
  | cons x xs =>
    have h1 := h x (List.mem_cons_self ..)
    have h2 := tail xs (fun z hz => h z (List.mem_cons_of_mem _ hz))
    have e : (bs x.text).length = x.text.size := rfl
    unfold joinT
    rw [List.map_cons, Lib.join_cons, List.length_append, List.length_cons]
    omega

/-- What is known of a schema below. -/
def OkD (x : Dat) : Prop := IsShp x ∧ ∃ E F, Plain E x ∧ E ≤ F ∧ CmpD (F + 1) x
theorem kid_ok {E F : Nat} {v y : Dat} (hp : Plain E v) (hEF : E ≤ F) (hc : CmpD (F + 1) v) (hy : y ∈ kidsOf v) (hs : IsShp y) : OkD y := by
  obtain ⟨E', hE', hpE'⟩ := kids_plain hp y hy
  have h := hc.2 y hy
  obtain ⟨F', rfl⟩ : ∃ F', F = F' + 1 := ⟨F - 1, by omega⟩
  exact ⟨hs, E', F', hpE', by omega, h⟩

/-- describeSchema's contract at a level. -/
def DescAt (D : Nat) : Prop := ∀ (S : Nat → Prop) (v : Dat) (b : Nat) (ind : ByteArray) (w : World), (∀ k, S k → k < w.heap.size) → Sch S w D v b → OkD v → Tab w → (descr D (bs ind) v).length ≤ 9223372036854775807 →
  Calls Tryz.prog 51 #[.pointer (some ⟨b, 0, none⟩), .string ind] w (GivesText (descr D (bs ind) v) w)

theorem dRest0 : dRest 0 = .seq (dSec 0) (dRest 1) := by kernel_rfl
theorem dRest1 : dRest 1 = .seq (dSec 1) (dRest 2) := by kernel_rfl
theorem dRest2 : dRest 2 = .seq (dSec 2) (dRest 3) := by kernel_rfl
theorem dRest3 : dRest 3 = .seq (dSec 3) (dRest 4) := by kernel_rfl
theorem dRest4 : dRest 4 = .seq (dSec 4) (dRest 5) := by kernel_rfl
theorem dRest5 : dRest 5 = .seq (dSec 5) (dRest 6) := by kernel_rfl
theorem dRest6 : dRest 6 = .seq (dSec 6) (dRest 7) := by kernel_rfl
theorem dRest7 : dRest 7 = .seq (dSec 7) (dRest 8) := by kernel_rfl
theorem dRest8 : dRest 8 = .seq (dSec 8) (dRest 9) := by kernel_rfl
theorem dRest9 : dRest 9 = .seq (dSec 9) (dRest 10) := by kernel_rfl
theorem dRest10 : dRest 10 = .seq (dSec 10) (dRest 11) := by kernel_rfl
theorem dRest11 : dRest 11 = .seq (dSec 11) (dRest 12) := by kernel_rfl
theorem dRest12 : dRest 12 = .seq (dSec 12) (dRest 13) := by kernel_rfl
theorem dRest13 : dRest 13 = .seq (dSec 13) (dRest 14) := by kernel_rfl
theorem dRest14 : dRest 14 = .seq (dSec 14) (dRest 15) := by kernel_rfl
theorem dRest15 : dRest 15 = .seq (dSec 15) (dRest 16) := by kernel_rfl
theorem dRest16 : dRest 16 = .seq (dSec 16) (dRest 17) := by kernel_rfl
theorem dRest17 : dRest 17 = .seq (dSec 17) (dRest 18) := by kernel_rfl
theorem dRest18 : dRest 18 = .seq (dSec 18) (dRest 19) := by kernel_rfl
theorem dRest19 : dRest 19 = .seq (dSec 19) (dRest 20) := by kernel_rfl
theorem dRest20 : dRest 20 = .seq (dSec 20) (dRest 21) := by kernel_rfl
theorem dRest21 : dRest 21 = .seq (dSec 21) (dRest 22) := by kernel_rfl
theorem dRest22 : dRest 22 = .seq (dSec 22) (dRest 23) := by kernel_rfl
theorem dRest23 : dRest 23 = .seq (dSec 23) (dRest 24) := by kernel_rfl
theorem dRest24 : dRest 24 = .seq (dSec 24) (dRest 25) := by kernel_rfl
theorem dRest25 : dRest 25 = .seq (dSec 25) (dRest 26) := by kernel_rfl
theorem dRest26 : dRest 26 = .seq (dSec 26) (dRest 27) := by kernel_rfl
theorem dRest27 : dRest 27 = .seq (dSec 27) (dRest 28) := by kernel_rfl
theorem dRest28 : dRest 28 = .seq (dSec 28) (dRest 29) := by kernel_rfl
theorem dRest29 : dRest 29 = .seq (dSec 29) (dRest 30) := by kernel_rfl
theorem dRest30 : dRest 30 = .seq (dSec 30) (dRest 31) := by kernel_rfl
theorem dRest31 : dRest 31 = .seq (dSec 31) (dRest 32) := by kernel_rfl
theorem dRest32 : dRest 32 = .seq (dSec 32) (dRest 33) := by kernel_rfl
theorem dRest33 : dRest 33 = .seq (dSec 33) (dRest 34) := by kernel_rfl
theorem dRest34 : dRest 34 = .seq (dSec 34) (dRest 35) := by kernel_rfl
theorem dRest35 : dRest 35 = .seq (dSec 35) (dRest 36) := by kernel_rfl
theorem dRest36 : dRest 36 = .seq (dSec 36) (dRest 37) := by kernel_rfl
theorem dRest37 : dRest 37 = .seq (dSec 37) (dRest 38) := by kernel_rfl
theorem dRest38 : dRest 38 = .seq (dSec 38) (dRest 39) := by kernel_rfl

set_option maxRecDepth 100000 in
set_option maxHeartbeats 8000000 in
theorem desc_chain (S : Nat → Prop) (w0 : World) (D b E F : Nat) (v : Dat) (ind : ByteArray) (u : Nat → Value) (Q : Exit → Act → World → Prop) (hS : ∀ k, S k → k < w0.heap.size) (hT : Tab w0) (hp : Plain E v) (hEF : E ≤ F) (hc : CmpD (F + 1) v) (hs : IsShp v) (hI : IHd S w0 D OkD)
    (h4 : w0.cell? ⟨b, 4, none⟩ = some (.pointer none)) (h5 : w0.cell? ⟨b, 5, none⟩ = some (.pointer none))
    (hfld : ∀ y ∈ kws, 0 < y.2.2 → ∃ f, w0.cell? ⟨b, y.2.2, none⟩ = some f ∧ FieldO S w0 (Sch S w0 D) y.2.1 (atD v y.1) f)
    (hsch : ∀ x, atD v kId = some x → ∃ s0, atD v kSSchema = some s0) (hW : (descr (D + 1) (bs ind) v).length ≤ 9223372036854775807)
    (hend : ∀ (r : ByteArray) (u' : Nat → Value) (w' : World), bs r = descr (D + 1) (bs ind) v → Below w0.heap.size w0 w' → (dRest 38).wp Tryz.prog Q (dlit b ind r u') w') :
    (dRest 2).wp Tryz.prog Q (dlit b ind ⟨#[]⟩ u) w0 := by
  have P1 : ∀ key x, atD v key = some x → x.items.length ≤ 60 := fun key x h => by
    obtain ⟨E', -, h'⟩ := at_plain hp h
    exact h'.few
  have P2 : ∀ key x, atD v key = some x → -1000000000 < x.num ∧ x.num < 1000000000 := fun key x h => by
    obtain ⟨E', -, h'⟩ := at_plain hp h
    exact h'.num
  have P3 : ∀ key x, atD v key = some x → ∀ y ∈ x.items, y.items.length ≤ 60 ∧ y.text.size ≤ 200 := fun key x h y hy => by
    obtain ⟨E', -, h'⟩ := at_plain hp h
    obtain ⟨i, hi, rfl⟩ := List.getElem_of_mem hy
    obtain ⟨E2, -, h2⟩ := h'.item hi
    exact ⟨h2.few, h2.text⟩
  have PT : ∀ key x, atD v key = some x → x.text.size ≤ 200 := fun key x h => by
    obtain ⟨E', -, h'⟩ := at_plain hp h
    exact h'.text
  have PJ : ∀ (sep : List UInt8), sep.length ≤ 2 → ∀ key x, atD v key = some x → (joinT sep x.items).length ≤ 140737488355328 := fun sep hsep key x h => by
    have h1 := joinT_small hsep x.items (fun y hy => (P3 key x h y hy).2)
    have h2 := P1 key x h
    omega
  have K1 : ∀ key x, atD v key = some x → ∀ y ∈ kidsD (shapeN key) x, IsShp y → OkD y := fun key x h y hy hsy => kid_ok hp hEF hc (at_kid h y hy) hsy
  have K5 : ∀ key x, atD v key = some x → shapeN key = 5 → OkD x := fun key x h hk => by
    have hf := at_fit hs h
    rw [hk] at hf
    exact K1 key x h x (by rw [hk]; simp [kidsD]) hf
  have K6 : ∀ key x, atD v key = some x → (shapeN key = 6 ∨ shapeN key = 7) → x.kind = 5 → OkD x := fun key x h hk h5 => by
    have hf := at_fit hs h
    refine K1 key x h x ?_ ?_
    · rcases hk with hk | hk <;> · rw [hk]; simp [kidsD, h5]
    · rcases hk with hk | hk
      · rw [hk] at hf
        rcases hf with hf | hf
        · omega
        · exact hf
      · rw [hk] at hf
        rcases hf with hf | hf
        · exact hf
        · have := hf.1
          omega
  have K9 : ∀ key x, atD v key = some x → (shapeN key = 9 ∨ shapeN key = 13) → ∀ y ∈ x.items, OkD y := fun key x h hk y hy => by
    have hf := at_fit hs h
    have hsy : IsShp y := by
      rcases hk with hk | hk
      · rw [hk] at hf
        exact mem_get hf.2 y hy
      · rw [hk] at hf
        exact mem_get hf.2 y hy
    refine K1 key x h y ?_ hsy
    rcases hk with hk | hk <;> · rw [hk]; simp [kidsD, hy, hsy.kind]
  have K7 : ∀ key x, atD v key = some x → shapeN key = 7 → x.kind = 4 → ∀ y ∈ x.items, OkD y := fun key x h hk h4 y hy => by
    have hf := at_fit hs h
    rw [hk] at hf
    rcases hf with hf | hf
    · have := hf.kind
      omega
    · have hsy := mem_get hf.2 y hy
      refine K1 key x h y ?_ hsy
      rw [hk]
      simp [kidsD, h4, hy, hsy.kind]
  obtain ⟨whole, hw⟩ : ∃ l, descr (D + 1) (bs ind) v = l := ⟨_, rfl⟩
  rw [hw] at hW hend
  have hF1 : Fits ⟨#[]⟩ (descr (D + 1) (bs ind) v) whole := hw
  simp only [descr, secs, List.flatMap_cons, List.flatMap_nil] at hF1
  obtain ⟨fS, hfS, hoS⟩ := hfld (kSSchema, 1, 1) (by unfold kws; simp) (by decide)
  dsimp only at hfS hoS
  have hbad : ∀ k ∈ v.keys, k ∉ badKeys := hc.1
  have hb1 := Below.refl w0.heap.size w0
  rw [dRest2]
  refine wp_seq (sec_SSchema S w0 D OkD _ _ b ind _ _ whole _ _ _ _ _ hb1 hfS hoS hF1 hW ?_)
  intro r2 u2 w2 hF2 hc2
  have hb2 := up_trans hb1 hc2
  clear hc2 hF1 hb1
  rw [dRest3]
  refine wp_seq (sec_ReadOnly w0 b ind _ _ whole _ _ _ _ hb2 h4 hF2 ?_)
  intro r3 u3 w3 hF3 hc3
  have hb3 := up_trans hb2 hc3
  clear hc3 hF2 hb2
  rw [dRest4]
  refine wp_seq (sec_WriteOnly w0 b ind _ _ whole _ _ _ _ hb3 h5 hF3 ?_)
  intro r4 u4 w4 hF4 hc4
  have hb4 := up_trans hb3 hc4
  clear hc4 hF3 hb3
  obtain ⟨f5, hf5, ho5⟩ := hfld (kId, 1, 2) (by unfold kws; simp) (by decide)
  dsimp only at hf5 ho5
  rw [dRest5]
  refine wp_seq (sec_Id S w0 D OkD _ _ b ind _ _ whole _ _ _ _ _ hb4 hf5 ho5 fS hfS (fun x h => by obtain ⟨s0, hs0⟩ := hsch x h; exact ⟨s0, hs0, by rw [hs0] at hoS; exact hoS⟩) (fun s0 h => by have := PT _ s0 h; omega) hF4 hW ?_)
  intro r5 u5 w5 hF5 hc5
  have hb5 := up_trans hb4 hc5
  clear hc5 hF4 hb4
  obtain ⟨f6, hf6, ho6⟩ := hfld (kMultipleOf, 3, 6) (by unfold kws; simp) (by decide)
  dsimp only at hf6 ho6
  rw [at_bad hbad (show kMultipleOf ∈ badKeys by unfold badKeys; simp)] at ho6
  have e6 : f6 = .pointer none := ho6
  subst e6
  rw [dRest6]
  refine wp_seq (sec_MultipleOf w0 b ind _ _ whole _ _ _ _ hb5 hf6 hF5 ?_)
  intro r6 u6 w6 hF6 hc6
  have hb6 := up_trans hb5 hc6
  clear hc6 hF5 hb5
  obtain ⟨f7, hf7, ho7⟩ := hfld (kMaximum, 3, 7) (by unfold kws; simp) (by decide)
  dsimp only at hf7 ho7
  rw [at_bad hbad (show kMaximum ∈ badKeys by unfold badKeys; simp)] at ho7
  have e7 : f7 = .pointer none := ho7
  subst e7
  rw [dRest7]
  refine wp_seq (sec_Maximum w0 b ind _ _ whole _ _ _ _ hb6 hf7 hF6 ?_)
  intro r7 u7 w7 hF7 hc7
  have hb7 := up_trans hb6 hc7
  clear hc7 hF6 hb6
  obtain ⟨f8, hf8, ho8⟩ := hfld (kExclusiveMaximum, 2, 8) (by unfold kws; simp) (by decide)
  dsimp only at hf8 ho8
  rw [dRest8]
  refine wp_seq (sec_ExclusiveMaximum S w0 D OkD _ _ b ind _ _ whole _ _ _ _ _ hb7 hf8 ho8 hF7 hW ?_)
  intro r8 u8 w8 hF8 hc8
  have hb8 := up_trans hb7 hc8
  clear hc8 hF7 hb7
  obtain ⟨f9, hf9, ho9⟩ := hfld (kMinimum, 3, 9) (by unfold kws; simp) (by decide)
  dsimp only at hf9 ho9
  rw [at_bad hbad (show kMinimum ∈ badKeys by unfold badKeys; simp)] at ho9
  have e9 : f9 = .pointer none := ho9
  subst e9
  rw [dRest9]
  refine wp_seq (sec_Minimum w0 b ind _ _ whole _ _ _ _ hb8 hf9 hF8 ?_)
  intro r9 u9 w9 hF9 hc9
  have hb9 := up_trans hb8 hc9
  clear hc9 hF8 hb8
  obtain ⟨f10, hf10, ho10⟩ := hfld (kExclusiveMinimum, 2, 10) (by unfold kws; simp) (by decide)
  dsimp only at hf10 ho10
  rw [dRest10]
  refine wp_seq (sec_ExclusiveMinimum S w0 D OkD _ _ b ind _ _ whole _ _ _ _ _ hb9 hf10 ho10 hF9 hW ?_)
  intro r10 u10 w10 hF10 hc10
  have hb10 := up_trans hb9 hc10
  clear hc10 hF9 hb9
  obtain ⟨f11, hf11, ho11⟩ := hfld (kMaxLength, 4, 11) (by unfold kws; simp) (by decide)
  dsimp only at hf11 ho11
  rw [dRest11]
  refine wp_seq (sec_MaxLength S w0 D OkD _ _ b ind _ _ whole _ _ _ _ _ hb10 hf11 ho11 hT (fun x h => P2 _ x h) hF10 hW ?_)
  intro r11 u11 w11 hF11 hc11
  have hb11 := up_trans hb10 hc11
  clear hc11 hF10 hb10
  obtain ⟨f12, hf12, ho12⟩ := hfld (kMinLength, 4, 12) (by unfold kws; simp) (by decide)
  dsimp only at hf12 ho12
  rw [dRest12]
  refine wp_seq (sec_MinLength S w0 D OkD _ _ b ind _ _ whole _ _ _ _ _ hb11 hf12 ho12 hT (fun x h => P2 _ x h) hF11 hW ?_)
  intro r12 u12 w12 hF12 hc12
  have hb12 := up_trans hb11 hc12
  clear hc12 hF11 hb11
  obtain ⟨f13, hf13, ho13⟩ := hfld (kPattern, 1, 13) (by unfold kws; simp) (by decide)
  dsimp only at hf13 ho13
  rw [dRest13]
  refine wp_seq (sec_Pattern S w0 D OkD _ _ b ind _ _ whole _ _ _ _ _ hb12 hf13 ho13 hF12 hW ?_)
  intro r13 u13 w13 hF13 hc13
  have hb13 := up_trans hb12 hc13
  clear hc13 hF12 hb12
  obtain ⟨f14, hf14, ho14⟩ := hfld (kAdditionalItems, 6, 14) (by unfold kws; simp) (by decide)
  dsimp only at hf14 ho14
  rw [dRest14]
  refine wp_seq (sec_AdditionalItems S w0 D OkD _ _ b ind _ _ whole _ _ _ _ _ hb13 hf14 ho14 hI (fun x h => K6 _ x h (.inl shapeN_kAdditionalItems)) hF13 hW ?_)
  intro r14 u14 w14 hF14 hc14
  have hb14 := up_trans hb13 hc14
  clear hc14 hF13 hb13
  obtain ⟨f15, hf15, ho15⟩ := hfld (kItems, 7, 15) (by unfold kws; simp) (by decide)
  dsimp only at hf15 ho15
  rw [dRest15]
  refine wp_seq (sec_Items S w0 D OkD _ _ b ind _ _ whole _ _ _ _ _ hb14 hf15 ho15 hT hI (fun x h => K6 _ x h (.inr shapeN_kItems)) (fun x h => K7 _ x h shapeN_kItems) (fun x h => P1 _ x h) hF14 hW ?_)
  intro r15 u15 w15 hF15 hc15
  have hb15 := up_trans hb14 hc15
  clear hc15 hF14 hb14
  obtain ⟨f16, hf16, ho16⟩ := hfld (kMaxItems, 4, 16) (by unfold kws; simp) (by decide)
  dsimp only at hf16 ho16
  rw [dRest16]
  refine wp_seq (sec_MaxItems S w0 D OkD _ _ b ind _ _ whole _ _ _ _ _ hb15 hf16 ho16 hT (fun x h => P2 _ x h) hF15 hW ?_)
  intro r16 u16 w16 hF16 hc16
  have hb16 := up_trans hb15 hc16
  clear hc16 hF15 hb15
  obtain ⟨f17, hf17, ho17⟩ := hfld (kMinItems, 4, 17) (by unfold kws; simp) (by decide)
  dsimp only at hf17 ho17
  rw [dRest17]
  refine wp_seq (sec_MinItems S w0 D OkD _ _ b ind _ _ whole _ _ _ _ _ hb16 hf17 ho17 hT (fun x h => P2 _ x h) hF16 hW ?_)
  intro r17 u17 w17 hF17 hc17
  have hb17 := up_trans hb16 hc17
  clear hc17 hF16 hb16
  obtain ⟨f18, hf18, ho18⟩ := hfld (kUniqueItems, 2, 18) (by unfold kws; simp) (by decide)
  dsimp only at hf18 ho18
  rw [dRest18]
  refine wp_seq (sec_UniqueItems S w0 D OkD _ _ b ind _ _ whole _ _ _ _ _ hb17 hf18 ho18 hF17 hW ?_)
  intro r18 u18 w18 hF18 hc18
  have hb18 := up_trans hb17 hc18
  clear hc18 hF17 hb17
  obtain ⟨f19, hf19, ho19⟩ := hfld (kMaxProperties, 4, 19) (by unfold kws; simp) (by decide)
  dsimp only at hf19 ho19
  rw [dRest19]
  refine wp_seq (sec_MaxProperties S w0 D OkD _ _ b ind _ _ whole _ _ _ _ _ hb18 hf19 ho19 hT (fun x h => P2 _ x h) hF18 hW ?_)
  intro r19 u19 w19 hF19 hc19
  have hb19 := up_trans hb18 hc19
  clear hc19 hF18 hb18
  obtain ⟨f20, hf20, ho20⟩ := hfld (kMinProperties, 4, 20) (by unfold kws; simp) (by decide)
  dsimp only at hf20 ho20
  rw [dRest20]
  refine wp_seq (sec_MinProperties S w0 D OkD _ _ b ind _ _ whole _ _ _ _ _ hb19 hf20 ho20 hT (fun x h => P2 _ x h) hF19 hW ?_)
  intro r20 u20 w20 hF20 hc20
  have hb20 := up_trans hb19 hc20
  clear hc20 hF19 hb19
  obtain ⟨f21, hf21, ho21⟩ := hfld (kRequired, 8, 21) (by unfold kws; simp) (by decide)
  dsimp only at hf21 ho21
  rw [dRest21]
  refine wp_seq (sec_Required S w0 D OkD _ _ b ind _ _ whole _ _ _ _ _ hb20 hf21 ho21 hS (fun x h => P1 _ x h) (fun x h => PJ [32] (by simp) _ x h) hF20 hW ?_)
  intro r21 u21 w21 hF21 hc21
  have hb21 := up_trans hb20 hc21
  clear hc21 hF20 hb20
  obtain ⟨f22, hf22, ho22⟩ := hfld (kAdditionalProperties, 6, 22) (by unfold kws; simp) (by decide)
  dsimp only at hf22 ho22
  rw [dRest22]
  refine wp_seq (sec_AdditionalProperties S w0 D OkD _ _ b ind _ _ whole _ _ _ _ _ hb21 hf22 ho22 hI (fun x h => K6 _ x h (.inl shapeN_kAdditionalProperties)) hF21 hW ?_)
  intro r22 u22 w22 hF22 hc22
  have hb22 := up_trans hb21 hc22
  clear hc22 hF21 hb21
  obtain ⟨f23, hf23, ho23⟩ := hfld (kProperties, 9, 23) (by unfold kws; simp) (by decide)
  dsimp only at hf23 ho23
  rw [dRest23]
  refine wp_seq (sec_Properties S w0 D OkD _ _ b ind _ _ whole _ _ _ _ _ hb22 hf23 ho23 hI (fun x h => K9 _ x h (.inl shapeN_kProperties)) (fun x h => P1 _ x h) hF22 hW ?_)
  intro r23 u23 w23 hF23 hc23
  have hb23 := up_trans hb22 hc23
  clear hc23 hF22 hb22
  obtain ⟨f24, hf24, ho24⟩ := hfld (kPatternProperties, 9, 24) (by unfold kws; simp) (by decide)
  dsimp only at hf24 ho24
  rw [dRest24]
  refine wp_seq (sec_PatternProperties S w0 D OkD _ _ b ind _ _ whole _ _ _ _ _ hb23 hf24 ho24 hI (fun x h => K9 _ x h (.inl shapeN_kPatternProperties)) (fun x h => P1 _ x h) hF23 hW ?_)
  intro r24 u24 w24 hF24 hc24
  have hb24 := up_trans hb23 hc24
  clear hc24 hF23 hb23
  obtain ⟨f25, hf25, ho25⟩ := hfld (kDependencies, 10, 25) (by unfold kws; simp) (by decide)
  dsimp only at hf25 ho25
  rw [dRest25]
  refine wp_seq (sec_Dependencies S w0 D OkD _ _ b ind _ _ whole _ _ _ _ _ hb24 hf25 ho25 (fun x h => P1 _ x h) (fun x h y hy => (P3 _ x h y hy).1) hF24 hW ?_)
  intro r25 u25 w25 hF25 hc25
  have hb25 := up_trans hb24 hc25
  clear hc25 hF24 hb24
  obtain ⟨f26, hf26, ho26⟩ := hfld (kEnum, 11, 26) (by unfold kws; simp) (by decide)
  dsimp only at hf26 ho26
  rw [dRest26]
  refine wp_seq (sec_Enum S w0 D OkD _ _ b ind _ _ whole _ _ _ _ _ hb25 hf26 ho26 (fun x h => P1 _ x h) hF25 hW ?_)
  intro r26 u26 w26 hF26 hc26
  have hb26 := up_trans hb25 hc26
  clear hc26 hF25 hb25
  obtain ⟨f27, hf27, ho27⟩ := hfld (kType, 12, 27) (by unfold kws; simp) (by decide)
  dsimp only at hf27 ho27
  rw [dRest27]
  refine wp_seq (sec_Type S w0 D OkD _ _ b ind _ _ whole _ _ _ _ _ hb26 hf27 ho27 hS (fun x h => P1 _ x h) (fun x h => PJ [44, 32] (by simp) _ x h) hF26 hW ?_)
  intro r27 u27 w27 hF27 hc27
  have hb27 := up_trans hb26 hc27
  clear hc27 hF26 hb26
  obtain ⟨f28, hf28, ho28⟩ := hfld (kAllOf, 13, 28) (by unfold kws; simp) (by decide)
  dsimp only at hf28 ho28
  rw [dRest28]
  refine wp_seq (sec_AllOf S w0 D OkD _ _ b ind _ _ whole _ _ _ _ _ hb27 hf28 ho28 hI (fun x h => K9 _ x h (.inr shapeN_kAllOf)) (fun x h => P1 _ x h) hF27 hW ?_)
  intro r28 u28 w28 hF28 hc28
  have hb28 := up_trans hb27 hc28
  clear hc28 hF27 hb27
  obtain ⟨f29, hf29, ho29⟩ := hfld (kAnyOf, 13, 29) (by unfold kws; simp) (by decide)
  dsimp only at hf29 ho29
  rw [dRest29]
  refine wp_seq (sec_AnyOf S w0 D OkD _ _ b ind _ _ whole _ _ _ _ _ hb28 hf29 ho29 hI (fun x h => K9 _ x h (.inr shapeN_kAnyOf)) (fun x h => P1 _ x h) hF28 hW ?_)
  intro r29 u29 w29 hF29 hc29
  have hb29 := up_trans hb28 hc29
  clear hc29 hF28 hb28
  obtain ⟨f30, hf30, ho30⟩ := hfld (kOneOf, 13, 30) (by unfold kws; simp) (by decide)
  dsimp only at hf30 ho30
  rw [dRest30]
  refine wp_seq (sec_OneOf S w0 D OkD _ _ b ind _ _ whole _ _ _ _ _ hb29 hf30 ho30 hI (fun x h => K9 _ x h (.inr shapeN_kOneOf)) (fun x h => P1 _ x h) hF29 hW ?_)
  intro r30 u30 w30 hF30 hc30
  have hb30 := up_trans hb29 hc30
  clear hc30 hF29 hb29
  obtain ⟨f31, hf31, ho31⟩ := hfld (kNot, 5, 31) (by unfold kws; simp) (by decide)
  dsimp only at hf31 ho31
  rw [dRest31]
  refine wp_seq (sec_Not S w0 D OkD _ _ b ind _ _ whole _ _ _ _ _ hb30 hf31 ho31 hI (fun x h => K5 _ x h shapeN_kNot) hF30 hW ?_)
  intro r31 u31 w31 hF31 hc31
  have hb31 := up_trans hb30 hc31
  clear hc31 hF30 hb30
  obtain ⟨f32, hf32, ho32⟩ := hfld (kDefinitions, 9, 32) (by unfold kws; simp) (by decide)
  dsimp only at hf32 ho32
  rw [dRest32]
  refine wp_seq (sec_Definitions S w0 D OkD _ _ b ind _ _ whole _ _ _ _ _ hb31 hf32 ho32 hI (fun x h => K9 _ x h (.inl shapeN_kDefinitions)) (fun x h => P1 _ x h) hF31 hW ?_)
  intro r32 u32 w32 hF32 hc32
  have hb32 := up_trans hb31 hc32
  clear hc32 hF31 hb31
  obtain ⟨f33, hf33, ho33⟩ := hfld (kTitle, 1, 33) (by unfold kws; simp) (by decide)
  dsimp only at hf33 ho33
  rw [dRest33]
  refine wp_seq (sec_Title S w0 D OkD _ _ b ind _ _ whole _ _ _ _ _ hb32 hf33 ho33 hF32 hW ?_)
  intro r33 u33 w33 hF33 hc33
  have hb33 := up_trans hb32 hc33
  clear hc33 hF32 hb32
  obtain ⟨f34, hf34, ho34⟩ := hfld (kDescription, 1, 34) (by unfold kws; simp) (by decide)
  dsimp only at hf34 ho34
  rw [dRest34]
  refine wp_seq (sec_Description S w0 D OkD _ _ b ind _ _ whole _ _ _ _ _ hb33 hf34 ho34 hF33 hW ?_)
  intro r34 u34 w34 hF34 hc34
  have hb34 := up_trans hb33 hc34
  clear hc34 hF33 hb33
  obtain ⟨f35, hf35, ho35⟩ := hfld (kDefault, 14, 35) (by unfold kws; simp) (by decide)
  dsimp only at hf35 ho35
  rw [at_bad hbad (show kDefault ∈ badKeys by unfold badKeys; simp)] at ho35
  have e35 : f35 = .pointer none := ho35
  subst e35
  rw [dRest35]
  refine wp_seq (sec_Default w0 b ind _ _ whole _ _ _ _ hb34 hf35 hF34 ?_)
  intro r35 u35 w35 hF35 hc35
  have hb35 := up_trans hb34 hc35
  clear hc35 hF34 hb34
  obtain ⟨f36, hf36, ho36⟩ := hfld (kFormat, 1, 36) (by unfold kws; simp) (by decide)
  dsimp only at hf36 ho36
  rw [dRest36]
  refine wp_seq (sec_Format S w0 D OkD _ _ b ind _ _ whole _ _ _ _ _ hb35 hf36 ho36 hF35 hW ?_)
  intro r36 u36 w36 hF36 hc36
  have hb36 := up_trans hb35 hc36
  clear hc36 hF35 hb35
  obtain ⟨f37, hf37, ho37⟩ := hfld (kSRef, 1, 3) (by unfold kws; simp) (by decide)
  dsimp only at hf37 ho37
  rw [dRest37]
  refine wp_seq (sec_Ref S w0 D OkD _ _ b ind _ _ whole _ _ _ _ _ hb36 hf37 ho37 hF36 hW ?_)
  intro r37 u37 w37 hF37 hc37
  have hb37 := up_trans hb36 hc37
  clear hc37 hF36 hb36
  refine hend _ _ _ ?_ hb37
  have h := hF37
  unfold Fits at h
  rwa [List.append_nil] at h
end Go.Proofs.YthdnkcofcbinhaaGreatDoor

/- describeSchema, whole; String; IsEqual. -/
namespace Go.Proofs.YthdnkcofcbinhaaGreatDoor
open Go.RowKit

set_option maxRecDepth 1000000 in
/-- The frame ahead of the text. -/
def dlitU (b : Nat) (ind : ByteArray) (u : Nat → Value) : Act := ⟨#[.pointer (some ⟨b, 0, none⟩), .string ind, u 2, u 3, u 4, u 5, u 6, u 7, u 8, u 9, u 10, u 11, u 12, u 13, u 14, u 15, u 16, u 17, u 18, u 19, u 20, u 21, u 22, u 23, u 24, u 25, u 26, u 27, u 28, u 29, u 30, u 31, u 32, u 33, u 34, u 35, u 36, u 37, u 38, u 39, u 40, u 41, u 42, u 43, u 44, u 45, u 46, u 47, u 48, u 49, u 50, u 51, u 52, u 53, u 54, u 55, u 56, u 57, u 58, u 59, u 60, u 61, u 62, u 63, u 64, u 65, u 66, u 67, u 68, u 69, u 70, u 71, u 72, u 73, u 74, u 75, u 76, u 77, u 78, u 79, u 80, u 81, u 82, u 83, u 84, u 85, u 86, u 87, u 88, u 89, u 90, u 91, u 92, u 93, u 94, u 95, u 96, u 97, u 98, u 99, u 100, u 101, u 102, u 103, u 104, u 105, u 106, u 107, u 108, u 109, u 110, u 111, u 112, u 113, u 114, u 115, u 116, u 117, u 118, u 119, u 120, u 121, u 122, u 123, u 124, u 125, u 126, u 127, u 128, u 129, u 130, u 131, u 132, u 133, u 134, u 135, u 136, u 137, u 138, u 139, u 140, u 141, u 142, u 143, u 144, u 145, u 146, u 147, u 148, u 149, u 150, u 151, u 152, u 153, u 154, u 155, u 156, u 157, u 158, u 159, u 160, u 161, u 162, u 163, u 164, u 165, u 166, u 167, u 168, u 169, u 170, u 171, u 172, u 173, u 174, u 175, u 176, u 177, u 178, u 179, u 180, u 181, u 182, u 183, u 184, u 185, u 186, u 187, u 188, u 189, u 190, u 191, u 192, u 193, u 194, u 195, u 196, u 197, u 198, u 199, u 200, u 201, u 202, u 203, u 204, u 205, u 206, u 207, u 208, u 209, u 210, u 211, u 212, u 213, u 214, u 215, u 216, u 217, u 218, u 219, u 220, u 221, u 222, u 223, u 224, u 225, u 226, u 227, u 228, u 229, u 230, u 231, u 232, u 233, u 234, u 235, u 236, u 237, u 238, u 239, u 240, u 241, u 242, u 243, u 244, u 245, u 246, u 247, u 248, u 249, u 250, u 251, u 252, u 253, u 254, u 255, u 256, u 257, u 258, u 259, u 260, u 261, u 262, u 263, u 264, u 265, u 266, u 267, u 268, u 269, u 270, u 271, u 272, u 273, u 274, u 275, u 276, u 277, u 278, u 279, u 280, u 281, u 282, u 283, u 284, u 285, u 286, u 287, u 288, u 289, u 290, u 291, u 292, u 293, u 294, u 295, u 296, u 297, u 298, u 299, u 300, u 301, u 302, u 303, u 304, u 305, u 306, u 307, u 308, u 309, u 310, u 311, u 312, u 313, u 314, u 315, u 316, u 317, u 318, u 319, u 320, u 321, u 322, u 323, u 324, u 325, u 326, u 327, u 328, u 329, u 330, u 331, u 332, u 333, u 334, u 335, u 336, u 337, u 338, u 339, u 340, u 341, u 342, u 343, u 344, u 345, u 346, u 347, u 348, u 349, u 350, u 351, u 352, u 353, u 354, u 355, u 356, u 357, u 358, u 359, u 360, u 361, u 362, u 363, u 364, u 365, u 366, u 367, u 368, u 369, u 370, u 371, u 372, u 373, u 374, u 375, u 376, u 377, u 378, u 379, u 380, u 381, u 382, u 383, u 384, u 385, u 386, u 387, u 388, u 389, u 390, u 391, u 392, u 393, u 394, u 395, u 396, u 397, u 398, u 399, u 400, u 401, u 402, u 403, u 404, u 405, u 406, u 407, u 408, u 409, u 410, u 411, u 412, u 413, u 414, u 415, u 416, u 417, u 418, u 419, u 420, u 421, u 422, u 423, u 424, u 425, u 426, u 427, u 428, u 429, u 430, u 431, u 432, u 433, u 434, u 435, u 436, u 437, u 438, u 439, u 440, u 441, u 442, u 443, u 444, u 445, u 446, u 447, u 448, u 449, u 450, u 451, u 452, u 453, u 454, u 455, u 456, u 457, u 458, u 459, u 460, u 461, u 462, u 463, u 464, u 465, u 466, u 467, u 468, u 469, u 470, u 471, u 472, u 473, u 474, u 475, u 476, u 477, u 478, u 479, u 480, u 481, u 482, u 483, u 484, u 485, u 486, u 487, u 488, u 489, u 490, u 491, u 492, u 493, u 494, u 495, u 496, u 497, u 498, u 499, u 500, u 501, u 502, u 503, u 504, u 505, u 506, u 507, u 508, u 509, u 510, u 511, u 512, u 513, u 514, u 515, u 516, u 517, u 518, u 519, u 520, u 521, u 522, u 523, u 524, u 525, u 526, u 527, u 528, u 529, u 530, u 531, u 532, u 533, u 534, u 535, u 536, u 537, u 538, u 539, u 540, u 541, u 542, u 543, u 544, u 545, u 546, u 547, u 548, u 549, u 550, u 551, u 552, u 553, u 554, u 555, u 556, u 557, u 558, u 559, u 560, u 561, u 562, u 563, u 564, u 565, u 566, u 567, u 568, u 569, u 570, u 571, u 572, u 573, u 574, u 575, u 576, u 577, u 578, u 579, u 580, u 581, u 582, u 583, u 584, u 585, u 586, u 587, u 588, u 589, u 590, u 591, u 592, u 593, u 594, u 595, u 596, u 597, u 598, u 599, u 600, u 601, u 602, u 603, u 604, u 605, u 606, u 607, u 608, u 609, u 610, u 611, u 612, u 613, u 614, u 615, u 616, u 617, u 618, u 619, u 620, u 621, u 622, u 623, u 624, u 625, u 626, u 627, u 628, u 629, u 630, u 631, u 632, u 633, u 634, u 635, u 636, u 637, u 638, u 639, u 640, u 641, u 642, u 643, u 644, u 645, u 646, u 647, u 648, u 649, u 650, u 651, u 652, u 653, u 654, u 655, u 656, u 657, u 658, u 659, u 660, u 661, u 662, u 663, u 664, u 665, u 666, u 667, u 668, u 669, u 670, u 671, u 672, u 673, u 674, u 675, u 676, u 677, u 678, u 679, u 680, u 681, u 682, u 683, u 684, u 685, u 686, u 687, u 688, u 689, u 690, u 691, u 692, u 693, u 694, u 695, u 696, u 697, u 698, u 699, u 700, u 701, u 702, u 703, u 704, u 705, u 706, u 707, u 708, u 709, u 710, u 711, u 712, u 713, u 714, u 715, u 716, u 717, u 718, u 719, u 720, u 721, u 722, u 723, u 724, u 725, u 726, u 727, u 728, u 729, u 730, u 731, u 732, u 733, u 734, u 735, u 736, u 737, u 738, u 739, u 740, u 741, u 742, u 743, u 744, u 745, u 746, u 747, u 748, u 749, u 750, u 751, u 752, u 753, u 754, u 755, u 756, u 757, u 758, u 759, u 760, u 761, u 762, u 763, u 764, u 765, u 766, u 767, u 768, u 769, u 770, u 771, u 772, u 773, u 774, u 775, u 776, u 777, u 778, u 779, u 780, u 781, u 782, u 783, u 784, u 785, u 786, u 787, u 788, u 789, u 790, u 791, u 792, u 793, u 794, u 795, u 796, u 797, u 798, u 799, u 800, u 801, u 802, u 803, u 804, u 805, u 806, u 807, u 808, u 809, u 810, u 811, u 812, u 813, u 814, u 815, u 816, u 817, u 818, u 819, u 820, u 821, u 822, u 823, u 824, u 825, u 826, u 827, u 828, u 829, u 830, u 831, u 832, u 833, u 834, u 835, u 836, u 837, u 838, u 839, u 840, u 841, u 842, u 843, u 844, u 845, u 846, u 847, u 848, u 849, u 850, u 851, u 852, u 853, u 854, u 855, u 856, u 857, u 858, u 859, u 860, u 861, u 862, u 863, u 864, u 865, u 866, u 867, u 868, u 869, u 870, u 871, u 872, u 873, u 874, u 875, u 876, u 877, u 878, u 879, u 880, u 881, u 882, u 883, u 884, u 885, u 886, u 887, u 888, u 889, u 890, u 891, u 892, u 893, u 894, u 895, u 896, u 897, u 898, u 899, u 900, u 901, u 902, u 903, u 904, u 905, u 906, u 907, u 908, u 909, u 910, u 911, u 912, u 913, u 914, u 915, u 916, u 917, u 918, u 919, u 920, u 921, u 922, u 923, u 924, u 925, u 926, u 927, u 928, u 929, u 930, u 931, u 932, u 933, u 934, u 935, u 936, u 937, u 938, u 939, u 940, u 941, u 942, u 943, u 944, u 945, u 946, u 947, u 948, u 949, u 950, u 951, u 952, u 953, u 954, u 955, u 956, u 957, u 958, u 959, u 960, u 961, u 962, u 963, u 964, u 965, u 966, u 967, u 968, u 969, u 970, u 971, u 972, u 973, u 974, u 975, u 976, u 977, u 978, u 979, u 980, u 981, u 982, u 983, u 984, u 985, u 986, u 987, u 988, u 989, u 990, u 991, u 992, u 993, u 994, u 995, u 996, u 997, u 998, u 999, u 1000, u 1001, u 1002, u 1003, u 1004, u 1005, u 1006, u 1007, u 1008], []⟩
set_option maxRecDepth 1000000 in
set_option maxHeartbeats 8000000 in
theorem d_first0 (b : Nat) (ind : ByteArray) (u : Nat → Value) (w : World) (K : Act → World → Prop) (Q : Exit → Act → World → Prop) (h : ∀ u', K (dlitU b ind u') w) : (dSec 0).wp Tryz.prog (Exit.then K Q) (dlitU b ind u) w := by
  have H := Lib.hid h
  clear h
  dsimp only [dlitU]
  conv => arg 2; whnf
  go_wp2
  have h2 := H.out (fun i => bif Nat.beq i 4 then .string ⟨#[]⟩ else u i)
  exact h2
set_option maxRecDepth 1000000 in
set_option maxHeartbeats 8000000 in
theorem d_first1 (b : Nat) (ind : ByteArray) (u : Nat → Value) (w : World) (K : Act → World → Prop) (Q : Exit → Act → World → Prop) (h : K (dlit b ind ⟨#[]⟩ u) w) : (dSec 1).wp Tryz.prog (Exit.then K Q) (dlitU b ind u) w := by
  have H := Lib.hid h
  clear h
  dsimp only [dlitU]
  conv => arg 2; whnf
  go_wp2
  exact H.out
theorem wp_eq {P : Program} {Q : Exit → Act → World → Prop} {c c' : Code} {a a' : Act} {w : World} (hc : c = c') (ha : a = a') (h : c'.wp P Q a' w) : c.wp P Q a w := by
  subst hc ha
  exact h
set_option maxRecDepth 1000000 in
set_option maxHeartbeats 8000000 in
theorem desc_step (D : Nat) (ih : DescAt D) : DescAt (D + 1) := by
  intro S v b ind w hS hsch hok hT hlen
  obtain ⟨hsh, E, F, hp, hEF, hc⟩ := hok
  obtain ⟨hs, hk, cs, hh, hz, h4, h5, hf⟩ := hsch
  have hku := (keys_apart hp hk).2
  have hI : IHd S w D OkD := fun x k ind W hb hs hok hlen => ih S x k ind W (fun k h => Nat.lt_of_lt_of_le (hS k h) hb.size) (Sch.move (fun k h => hb.block k (hS k h)) (fun _ h => h) D x k hs) hok (hT.up hb) hlen
  have c4 := (blk_cell hh 4).trans h4
  have c5 := (blk_cell hh 5).trans h5
  have hfld : ∀ y ∈ kws, 0 < y.2.2 → ∃ f, w.cell? ⟨b, y.2.2, none⟩ = some f ∧ FieldO S w (Sch S w D) y.2.1 (atD v y.1) f := by
    intro y hy h0
    obtain ⟨f, hcf, hfa⟩ := hf y hy h0
    exact ⟨f, (blk_cell hh _).trans hcf, field_o hku hfa⟩
  have hsc : ∀ x, atD v kId = some x → ∃ s0, atD v kSSchema = some s0 := by
    intro x hx
    obtain ⟨i, g1, g2, gk, -⟩ := atD_place hx
    obtain ⟨d, hd⟩ := hsh
    cases d with
    | zero => exact hd.elim
    | succ d =>
      obtain ⟨j, hj, hkj⟩ := (hd.2 i g1 g2).2 gk
      have hj2 : j < v.items.length := by have := (keys_apart hp hk).1; omega
      exact atP_some (pairs v) ⟨(v.keys[j], v.items[j]), List.mem_of_getElem? (pairs_get hj hj2), hkj⟩
  have HCH := Lib.hid (fun (u : Nat → Value) (Q : Exit → Act → World → Prop) => desc_chain S w D b E F v ind u Q hS hT hp hEF hc hsh hI c4 c5 hfld hsc hlen)
  clear hsc hfld hI hf hku c4 c5 h4 h5 hh
  go_enter Tryz.func51, Tryz.ntmps51
  refine wp_eq (c' := .seq (dSec 0) (.seq (dSec 1) (dRest 2))) (a' := dlitU b ind (fun _ => undef)) ?_ ?_ ?_
  · kernel_rfl
  · kernel_rfl
  refine wp_seq (d_first0 b ind _ w _ _ (fun u' => ?_))
  refine wp_seq (d_first1 b ind _ w _ _ ?_)
  refine HCH.out u' _ (fun r u2 w2 hr hb => ?_)
  rw [dRest38]
  have HR := Lib.hid hr
  have HB := Lib.hid hb
  clear HCH hr hb
  refine wp_seq ?_
  dsimp only [dlit]
  conv => arg 2; whnf
  go_wp2_with fail
  conv => arg 2; whnf
  go_wp2
  go_ret
  exact ⟨r, rfl, HR.out, HB.out⟩
end Go.Proofs.YthdnkcofcbinhaaGreatDoor
