/- What describeSchema calls: the library's functions, and the type's text. -/
import Derived.Test.YthdnkcofcbinhaaGreatDoorDeJ
import Derived.Test.YthdnkcofcbinhaaGreatDoorDnJ
import Derived.Test.YthdnkcofcbinhaaGreatDoorGd3J
set_option linter.unusedVariables false
set_option linter.unusedSimpArgs false
namespace Go.Proofs.YthdnkcofcbinhaaGreatDoor
open Go.RowKit

theorem FormatBool_D (x : Dat) (W : World) : Calls Tryz.prog 48 #[.bool (x.num == 1)] W fun e w' => e = .returned (.string (boolT x)) ∧ W = w' := by
  refine (FormatBool_any (x.num == 1) W).mono ?_
  rintro e w' ⟨rfl, rfl⟩
  refine ⟨?_, rfl⟩
  unfold boolT
  cases (x.num == 1) <;> rfl

theorem Itoa_any (n : Nat) (w : World) (h1 : n ≤ 1000) (hT : Tab w) : Calls Tryz.prog 59 #[.int .i64 (n : Int)] w fun e w' => e = .returned (.string (intText (n : Int))) ∧ Below w.heap.size w w' := by
  have h := Any.strconv_Itoa Tryz.laysM171 (n : Int) (by omega) (by omega) w (hT w (Below.refl _ _))
  change Calls Tryz.prog 59 _ _ _ at h
  refine h.mono ?_
  rintro e w' ⟨rfl, k, os, rfl⟩
  exact ⟨rfl, below_grow _ _ _⟩

theorem extra156 : Go.Proofs.Builder.Extra Tryz.prog Tryz.lays156_ren where
  sizeBuilder := by kernel_rfl
  liesBuilder := by kernel_rfl
  t5 := Tryz.underlying5
  a5 := Tryz.isAgg5
  z5 := Tryz.sizeOf5
  v5 := Tryz.zeroValue5
  infoByte := by kernel_rfl
  cellsByte := by kernel_rfl
  sizeByte := by kernel_rfl
  neB5 := by decide

/-- The texts of a list, joined. -/
theorem Join_any (S : Nat → Prop) (w0 : World) (x : Dat) (v : Value) (sep : ByteArray) (w : World) (hS : ∀ k, S k → k < w0.heap.size) (hb : Below w0.heap.size w0 w) (hr : RowOf S w0 1 x.items.length (TextAt x) v) (h60 : x.items.length ≤ 60) (hlen : (joinT (bs sep) x.items).length ≤ 140737488355328) :
    Calls Tryz.prog 60 #[v, .string sep] w fun e w' => ∃ s : ByteArray, e = .returned (.string s) ∧ bs s = joinT (bs sep) x.items ∧ Below w.heap.size w w' := by
  obtain ⟨A, c, rfl, h1, h2, h3⟩ := hr
  rcases Nat.eq_zero_or_pos x.items.length with h0 | h0
  · have e0 : x.items = [] := List.length_eq_zero_iff.1 h0
    rw [h0]
    have h := Any.strings_Join_none Tryz.lays156 extra156 A c sep w
    change Calls Tryz.prog 60 _ _ _ at h
    refine h.mono ?_
    rintro e w' ⟨rfl, rfl⟩
    exact ⟨_, rfl, by rw [e0]; rfl, Below.refl _ _⟩
  · obtain ⟨g, us, rfl, hg, _⟩ := h3 0 h0
    have hlen2 : (x.items.map (·.text)).length = x.items.length := by simp
    have h := Any.strings_Join Tryz.lays156 extra156 g 0 c (x.items.map (·.text)) sep w (by
      intro j t hj
      have hjl : j < x.items.length := by have := (List.getElem?_eq_some_iff.1 hj).1; simpa using this
      obtain ⟨g', us', e', hg', hl', hc', ht⟩ := h3 j hjl
      cases e'
      obtain ⟨h', rfl⟩ := ht
      have := hc' 0 _ rfl
      have e2 : t = x.items[j].text := by
        have : (x.items.map (·.text))[j]? = some x.items[j].text := by simp [hjl]
        rw [this] at hj
        exact (Option.some.inj hj).symm
      rw [e2, Nat.zero_add]
      have h4 := cell_up hb _ _ this
      simpa using h4) (Nat.lt_of_lt_of_le (hS g hg) hb.size) (by omega) (by omega) (by
      have e : (x.items.map (·.text)).map (·.data.toList) = x.items.map fun x => bs x.text := by simp [List.map_map, bs]
      rw [e]
      exact hlen)
    change Calls Tryz.prog 60 _ _ _ at h
    rw [hlen2] at h
    refine h.mono ?_
    rintro e w' ⟨rfl, hb'⟩
    refine ⟨_, rfl, ?_, hb'⟩
    have e : (x.items.map (·.text)).map (·.data.toList) = x.items.map fun x => bs x.text := by simp [List.map_map, bs]
    show (Lib.join ((x.items.map (·.text)).map (·.data.toList)) sep.data.toList) = _
    rw [e]
    rfl

theorem Trim_any (s : ByteArray) (w : World) (hs : s.size ≤ 9223372036854775807) : Calls Tryz.prog 57 #[.string s, .string ⟨#[35]⟩] w fun e w' => ∃ t : ByteArray, e = .returned (.string t) ∧ bs t = Lib.trimSuffix (bs s) [35] ∧ w = w' := by
  have h := Any.strings_TrimSuffix Tryz.lays102 s ⟨#[35]⟩ w hs
  change Calls Tryz.prog 57 _ _ _ at h
  refine h.mono ?_
  rintro e w' ⟨rfl, rfl⟩
  exact ⟨_, rfl, rfl, rfl⟩

/-- The type's text. -/
theorem Description_any (S : Nat → Prop) (w0 : World) (x : Dat) (b : Nat) (w : World) (hS : ∀ k, S k → k < w0.heap.size) (hb : Below w0.heap.size w0 w) (h60 : x.items.length ≤ 60) (hlen : (joinT [44, 32] x.items).length ≤ 140737488355328)
    (hx : (x.kind = 3 ∧ ∃ g, w0.heap[b]? = some (.cells #[g, .pointer none] 119 (0, 0)) ∧ PtrTo S w0 g (.string x.text)) ∨
      (x.kind = 4 ∧ ∃ g, w0.heap[b]? = some (.cells #[.pointer none, g] 119 (0, 0)) ∧ SlicePtr S w0 1 x.items.length (TextAt x) g)) :
    Calls Tryz.prog 61 #[.pointer (some ⟨b, 0, none⟩)] w fun e w' => ∃ s : ByteArray, e = .returned (.string s) ∧ bs s = (if x.kind = 3 then bs x.text else joinT [44, 32] x.items) ∧ Below w.heap.size w w' := by
  rcases hx with ⟨hk, g, hh, hp⟩ | ⟨hk, g, hh, hp⟩
  · obtain ⟨bx, ox, rfl, -, hc⟩ := hp
    have c0 : w.cell? ⟨b, 0, none⟩ = some (.pointer (some ⟨bx, ox, none⟩)) := (blk_cell (blk_up hh hb) 0).trans rfl
    have c1 := cell_up hb _ _ hc
    rw [if_pos hk]
    clear hk hh hc
    go_enter Tryz.func61, Tryz.ntmps61
    go_wp2
    go_ret
    exact ⟨_, rfl, rfl, Below.refl _ _⟩
  · obtain ⟨bx, sv, rfl, -, hc, hr⟩ := hp
    have c0 : w.cell? ⟨b, 0, none⟩ = some (.pointer none) := (blk_cell (blk_up hh hb) 0).trans rfl
    have c2 : w.cell? ⟨b, 1, none⟩ = some (.pointer (some ⟨bx, 0, none⟩)) := (blk_cell (blk_up hh hb) 1).trans rfl
    have c1 := cell_up hb _ _ hc
    have HJ := Lib.hid (Join_any S w0 x sv ⟨#[44, 32]⟩ w hS hb hr h60 hlen)
    rw [if_neg (by omega)]
    obtain ⟨A, c, rfl, -⟩ := hr
    clear hk hh hc
    go_enter Tryz.func61, Tryz.ntmps61
    go_wp2_with fail
    go_at_call 60
    refine HJ.out.mono ?_
    rintro e w1 ⟨s, rfl, hs, hb1⟩
    have HS := Lib.hid hs
    have HB := Lib.hid hb1
    clear hs hb1
    go_wp2
    go_ret
    exact ⟨s, rfl, HS.out, HB.out⟩

/-- What describeSchema does with the schemas below. -/
def IHd (S : Nat → Prop) (w0 : World) (D : Nat) (Ok : Dat → Prop) : Prop :=
  ∀ (x : Dat) (k : Nat) (ind : ByteArray) (W : World), Below w0.heap.size w0 W → Sch S w0 D x k → Ok x → (descr D (bs ind) x).length ≤ 9223372036854775807 →
    Calls Tryz.prog 51 #[.pointer (some ⟨k, 0, none⟩), .string ind] W (GivesText (descr D (bs ind) x) W)
theorem Fits.text {r s : ByteArray} {t rest whole : List UInt8} (h : Fits r (t ++ rest) whole) (e : bs s = t) : Fits (r ++ s) rest whole := h.app (by rw [e])
theorem Fits.le {r : ByteArray} {t rest whole : List UInt8} (h : Fits r (t ++ rest) whole) (hw : whole.length ≤ 9223372036854775807) : t.length ≤ 9223372036854775807 := by
  have := h.size
  rw [List.length_append] at this
  omega
end Go.Proofs.YthdnkcofcbinhaaGreatDoor

/- describeSchema: sections. -/
namespace Go.Proofs.YthdnkcofcbinhaaGreatDoor
open Go.RowKit

set_option maxRecDepth 1000000 in
set_option maxHeartbeats 8000000 in
theorem sec_Required (S : Nat → Prop) (w0 : World) (D : Nat) (Ok : Dat → Prop) (sch o : Option Dat) (b : Nat) (ind r : ByteArray) (rest whole : List UInt8) (u : Nat → Value) (w : World) (K : Act → World → Prop) (Q' : Exit → Act → World → Prop) (f : Value)
    (hb : Below w0.heap.size w0 w) (hf0 : w0.cell? ⟨b, 21, none⟩ = some f) (ho : FieldO S w0 (Sch S w0 D) 8 o f)
    (hS : ∀ k, S k → k < w0.heap.size) (h60 : ∀ x, o = some x → x.items.length ≤ 60) (hj : ∀ x, o = some x → (joinT [32] x.items).length ≤ 140737488355328) (hF : Fits r (secO (descr D) (bs ind) sch (kRequired, 8, [114, 101, 113, 117, 105, 114, 101, 100]) o ++ rest) whole) (hW : whole.length ≤ 9223372036854775807) (hK : DK b ind rest whole w K) :
    (dSec 21).wp Tryz.prog (Exit.then K Q') (dlit b ind r u) w := by
  have HK := Lib.hid hK
  have hf := cell_up hb _ _ hf0
  clear hK hf0
  cases o with
  | none =>
    have e : f = .pointer none := ho
    subst e
    have HF := Lib.hid (show Fits r rest whole from hF)
    clear hF ho
    dsimp only [dlit]
    conv => arg 2; whnf
    go_wp2
    exact HK.out.at (u := u) (lo := 481) (hi := 498) HF.out (Below.refl _ _) (by unfold DFrame; kernel_rfl)
  | some x =>
    obtain ⟨bx, sv, rfl, -, hx0, hrow⟩ := (show SlicePtr S w0 1 x.items.length (TextAt x) f from ho)
    have hx := cell_up hb _ _ hx0
    have HC := Lib.hid (Join_any S w0 x sv ⟨#[32]⟩ w hS hb hrow (h60 x rfl) (hj x rfl))
    obtain ⟨A, c, rfl, -⟩ := hrow
    have HF0 := Lib.hid hF
    clear hx0 hF ho
    have i0 : ind.size + 11 ≤ 9223372036854775807 := by
      have h := HF0.out.size
      simp [secO, secT, bs_len] at h
      omega
    have c0 : ¬ (9223372036854775807 < ind.size + 11) := by omega
    dsimp only [dlit]
    conv => arg 2; whnf
    go_wp2_with fail
    go_at_call 60
    refine HC.out.mono ?_
    rintro e w1 ⟨s, rfl, hs0, hb1⟩
    have hF1 : Fits (r ++ (ind ++ ⟨#[114, 101, 113, 117, 105, 114, 101, 100, 58, 32, 91]⟩ ++ s ++ ⟨#[93, 10]⟩)) rest whole := HF0.out.app (by simp [secO, secT, bs_app, bs] at hs0 ⊢; rw [hs0])
    have hs := hF1.size
    simp only [ByteArray.size_append] at hs
    have e0 : (⟨#[114, 101, 113, 117, 105, 114, 101, 100, 58, 32, 91]⟩ : ByteArray).size = 11 := rfl
    have e1 : (⟨#[93, 10]⟩ : ByteArray).size = 2 := rfl
    rw [e0, e1] at hs
    clear e0 e1
    have c0 : ¬ (9223372036854775807 < ind.size + 11) := by omega
    have c1 : ¬ (9223372036854775807 < ind.size + 11 + s.size) := by omega
    have c2 : ¬ (9223372036854775807 < ind.size + 11 + s.size + 2) := by omega
    have cz : ¬ (9223372036854775807 < r.size + (ind.size + 11 + s.size + 2)) := by omega
    have HF := Lib.hid hF1
    have HB1 := Lib.hid hb1
    clear hF1 hs hs0 hb1
    go_wp2
    exact HK.out.at (u := u) (lo := 481) (hi := 498) HF.out (HB1.out) (by unfold DFrame; kernel_rfl)

set_option maxRecDepth 1000000 in
set_option maxHeartbeats 8000000 in
theorem sec_Type (S : Nat → Prop) (w0 : World) (D : Nat) (Ok : Dat → Prop) (sch o : Option Dat) (b : Nat) (ind r : ByteArray) (rest whole : List UInt8) (u : Nat → Value) (w : World) (K : Act → World → Prop) (Q' : Exit → Act → World → Prop) (f : Value)
    (hb : Below w0.heap.size w0 w) (hf0 : w0.cell? ⟨b, 27, none⟩ = some f) (ho : FieldO S w0 (Sch S w0 D) 12 o f)
    (hS : ∀ k, S k → k < w0.heap.size) (h60 : ∀ x, o = some x → x.items.length ≤ 60) (hj : ∀ x, o = some x → (joinT [44, 32] x.items).length ≤ 140737488355328) (hF : Fits r (secO (descr D) (bs ind) sch (kType, 12, [116, 121, 112, 101]) o ++ rest) whole) (hW : whole.length ≤ 9223372036854775807) (hK : DK b ind rest whole w K) :
    (dSec 27).wp Tryz.prog (Exit.then K Q') (dlit b ind r u) w := by
  have HK := Lib.hid hK
  have hf := cell_up hb _ _ hf0
  clear hK hf0
  cases o with
  | none =>
    have e : f = .pointer none := ho
    subst e
    have HF := Lib.hid (show Fits r rest whole from hF)
    clear hF ho
    dsimp only [dlit]
    conv => arg 2; whnf
    go_wp2
    exact HK.out.at (u := u) (lo := 750) (hi := 765) HF.out (Below.refl _ _) (by unfold DFrame; kernel_rfl)
  | some x =>
    obtain ⟨b2, rfl, -, hcase⟩ := (show ∃ b, f = .pointer (some ⟨b, 0, none⟩) ∧ S b ∧ ((x.kind = 3 ∧ ∃ g, w0.heap[b]? = some (.cells #[g, .pointer none] 119 (0, 0)) ∧ PtrTo S w0 g (.string x.text)) ∨
          (x.kind = 4 ∧ ∃ g, w0.heap[b]? = some (.cells #[.pointer none, g] 119 (0, 0)) ∧ SlicePtr S w0 1 x.items.length (TextAt x) g)) from ho)
    have HC := Lib.hid (Description_any S w0 x b2 w hS hb (h60 x rfl) (hj x rfl) hcase)
    have HF0 := Lib.hid hF
    clear hF ho hcase
    have i0 : ind.size + 6 ≤ 9223372036854775807 := by
      have h := HF0.out.size
      simp [secO, secT, bs_len] at h
      omega
    have c0 : ¬ (9223372036854775807 < ind.size + 6) := by omega
    dsimp only [dlit]
    conv => arg 2; whnf
    go_wp2_with fail
    go_at_call 61
    refine HC.out.mono ?_
    rintro e w1 ⟨s, rfl, hs0, hb1⟩
    have hF1 : Fits (r ++ (ind ++ ⟨#[116, 121, 112, 101, 58, 32]⟩ ++ s ++ ⟨#[10]⟩)) rest whole := HF0.out.app (by simp only [secO, secT, bs_app, hs0]; simp [bs])
    have hs := hF1.size
    simp only [ByteArray.size_append] at hs
    have e0 : (⟨#[116, 121, 112, 101, 58, 32]⟩ : ByteArray).size = 6 := rfl
    have e1 : (⟨#[10]⟩ : ByteArray).size = 1 := rfl
    rw [e0, e1] at hs
    clear e0 e1
    have c0 : ¬ (9223372036854775807 < ind.size + 6) := by omega
    have c1 : ¬ (9223372036854775807 < ind.size + 6 + s.size) := by omega
    have c2 : ¬ (9223372036854775807 < ind.size + 6 + s.size + 1) := by omega
    have cz : ¬ (9223372036854775807 < r.size + (ind.size + 6 + s.size + 1)) := by omega
    have HF := Lib.hid hF1
    have HB1 := Lib.hid hb1
    clear hF1 hs hs0 hb1
    go_wp2
    exact HK.out.at (u := u) (lo := 750) (hi := 765) HF.out (HB1.out) (by unfold DFrame; kernel_rfl)

end Go.Proofs.YthdnkcofcbinhaaGreatDoor

/- describeSchema: sections. -/
namespace Go.Proofs.YthdnkcofcbinhaaGreatDoor
open Go.RowKit

set_option maxRecDepth 1000000 in
set_option maxHeartbeats 8000000 in
theorem sec_Dependencies (S : Nat → Prop) (w0 : World) (D : Nat) (Ok : Dat → Prop) (sch o : Option Dat) (b : Nat) (ind r : ByteArray) (rest whole : List UInt8) (u : Nat → Value) (w : World) (K : Act → World → Prop) (Q' : Exit → Act → World → Prop) (f : Value)
    (hb : Below w0.heap.size w0 w) (hf0 : w0.cell? ⟨b, 25, none⟩ = some f) (ho : FieldO S w0 (Sch S w0 D) 10 o f)
    (h60 : ∀ x, o = some x → x.items.length ≤ 60) (h6b : ∀ x, o = some x → ∀ y ∈ x.items, y.items.length ≤ 60) (hF : Fits r (secO (descr D) (bs ind) sch (kDependencies, 10, [100, 101, 112, 101, 110, 100, 101, 110, 99, 105, 101, 115]) o ++ rest) whole) (hW : whole.length ≤ 9223372036854775807) (hK : DK b ind rest whole w K) :
    (dSec 25).wp Tryz.prog (Exit.then K Q') (dlit b ind r u) w := by
  have HK := Lib.hid hK
  have hf := cell_up hb _ _ hf0
  clear hK hf0
  cases o with
  | none =>
    have e : f = .pointer none := ho
    subst e
    have HF := Lib.hid (show Fits r rest whole from hF)
    clear hF ho
    dsimp only [dlit]
    conv => arg 2; whnf
    go_wp2
    exact HK.out.at (u := u) (lo := 626) (hi := 704) HF.out (Below.refl _ _) (by unfold DFrame; kernel_rfl)
  | some x =>
    obtain ⟨bx, sv, rfl, -, hx0, A, c, rfl, hnc, hcm, hel⟩ := (show SlicePtr S w0 1 x.items.length (DependAt S w0 x) f from ho)
    have hx := cell_up hb _ _ hx0
    have HEL := Lib.hid hel
    have h61 := h60 x rfl
    have h62 := h6b x rfl
    clear hel hx0 h60 h6b
    have hF1 : Fits (r ++ (ind ++ ⟨#[100, 101, 112, 101, 110, 100, 101, 110, 99, 105, 101, 115, 58, 10]⟩)) (depsT (bs ind) (x.keys.drop 0) (x.items.drop 0) ++ rest) whole := hF.app (by simp [secO, secT, bs_app, bs])
    have hs := hF1.size
    simp only [ByteArray.size_append] at hs
    have e0 : (⟨#[100, 101, 112, 101, 110, 100, 101, 110, 99, 105, 101, 115, 58, 10]⟩ : ByteArray).size = 14 := rfl
    rw [e0] at hs
    clear e0
    have c0 : ¬ (9223372036854775807 < ind.size + 14) := by omega
    have cz : ¬ (9223372036854775807 < r.size + (ind.size + 14)) := by omega
    have HF := Lib.hid hF1
    clear hF hF1 hs ho
    dsimp only [dlit]
    conv => arg 2; whnf
    go_wp2
    go_loopg [5, 642] x.items.length (fun gk v5 vi wr => ∃ (i : Nat) (r : ByteArray), v5 = .string r ∧ vi = .int .i64 i ∧ i + gk = x.items.length ∧ Hid (Fits r (depsT (bs ind) (x.keys.drop i) (x.items.drop i) ++ rest) whole) ∧ Hid (Below w.heap.size w wr))
    case atStart => exact ⟨0, _, rfl, rfl, by omega, HF, Lib.hid (Below.refl _ _)⟩
    case round =>
      clear HF
      obtain ⟨i, r1, rfl, rfl, hi, HFr, HBr⟩ := hrel
      by_cases hlt : i < x.items.length
      · obtain ⟨g, us, rfl, -, -, hcell, hli, hki, bp, bq, gg, rfl, -, hh, -, hh2, by_, sy, rfl, -, hy0, A2, c2, rfl, hnc2, hcm2, hel2⟩ := HEL.out i hlt
        have hup := up_trans hb HBr.out
        have hc := cell_up hup _ _ (hcell 0 _ rfl)
        rw [Nat.mul_one, Nat.add_zero] at hc
        have p0 : wr.cell? ⟨bp, 0, none⟩ = some (.string x.keys[i]) := (blk_cell (blk_up hh hup) 0).trans rfl
        have p1 : wr.cell? ⟨bp, 1, none⟩ = some (.pointer (some ⟨bq, 0, none⟩)) := (blk_cell (blk_up hh hup) 1).trans rfl
        have p2 : wr.cell? ⟨bq, 0, none⟩ = some (.pointer none) := (blk_cell (blk_up hh2 hup) 0).trans rfl
        have p3 : wr.cell? ⟨bq, 1, none⟩ = some (.pointer (some ⟨by_, 0, none⟩)) := (blk_cell (blk_up hh2 hup) 1).trans rfl
        have p4 := cell_up hup _ _ hy0
        have HEL2 := Lib.hid hel2
        have hF0 := HFr.out
        rw [depsT_at hki hlt] at hF0
        have h63 := h62 x.items[i] (List.getElem_mem _)
        obtain ⟨key, hkey⟩ : ∃ key, x.keys[i] = key := ⟨_, rfl⟩
        obtain ⟨y, hy⟩ : ∃ y, x.items[i] = y := ⟨_, rfl⟩
        rw [hkey] at p0 hF0
        rw [hy] at hF0 p4 HEL2 h63
        obtain ⟨rest2, hrest⟩ : ∃ l, depsT (bs ind) (x.keys.drop (i + 1)) (x.items.drop (i + 1)) ++ rest = l := ⟨_, rfl⟩
        have hF2 : Fits (r1 ++ (ind ++ ⟨#[32, 32]⟩ ++ key ++ ⟨#[58, 10]⟩)) (linesT (bs ind) (y.items.drop 0) ++ rest2) whole := hF0.app (by rw [← hrest]; simp [bs_app, bs])
        have HREST := Lib.hid hrest
        have hs := hF2.size
        simp only [ByteArray.size_append] at hs
        have e0 : (⟨#[32, 32]⟩ : ByteArray).size = 2 := rfl
        have e1 : (⟨#[58, 10]⟩ : ByteArray).size = 2 := rfl
        rw [e0, e1] at hs
        clear e0 e1
        have c0 : ¬ (9223372036854775807 < ind.size + 2) := by omega
        have c1 : ¬ (9223372036854775807 < ind.size + 2 + key.size) := by omega
        have c2 : ¬ (9223372036854775807 < ind.size + 2 + key.size + 2) := by omega
        have cz : ¬ (9223372036854775807 < r1.size + (ind.size + 2 + key.size + 2)) := by omega
        have HF2 := Lib.hid hF2
        have j1 : (i : Int) < (x.items.length : Int) := by omega
        clear hF0 hF2 hs hkey hy hh hh2 hcell hel2 hy0 hrest
        go_wp2
        clear hc p0 p1 p2 p3 p4 c0 c1 c2 cz
        go_loopg [5, 691] y.items.length (fun gj v5 vj wi => ∃ (j : Nat) (r : ByteArray), v5 = .string r ∧ vj = .int .i64 j ∧ j + gj = y.items.length ∧ Hid (Fits r (linesT (bs ind) (y.items.drop j) ++ rest2) whole) ∧ Hid (wi = wr))
        case atStart => exact ⟨0, _, rfl, rfl, by omega, HF2, Lib.hid rfl⟩
        case round =>
          clear HF2
          obtain ⟨j, r2, rfl, rfl, hj, HFj, HWJ⟩ := hrel
          have hwj := HWJ.out
          subst hwj
          by_cases hjt : j < y.items.length
          · obtain ⟨g2, us2, rfl, -, -, hcell2, hl2, rfl⟩ := HEL2.out j hjt
            have hc2 := cell_up hup _ _ (hcell2 0 _ rfl)
            rw [Nat.mul_one, Nat.add_zero] at hc2
            have hF0 := HFj.out
            rw [linesT_at hjt] at hF0
            obtain ⟨s, hs0⟩ : ∃ s, y.items[j].text = s := ⟨_, rfl⟩
            rw [hs0] at hc2 hF0
            have hF2 : Fits (r2 ++ (ind ++ ⟨#[32, 32]⟩ ++ ⟨#[32, 32]⟩ ++ s ++ ⟨#[10]⟩)) (linesT (bs ind) (y.items.drop (j + 1)) ++ rest2) whole := hF0.app (by simp [bs_app, bs])
            have hs := hF2.size
            simp only [ByteArray.size_append] at hs
            have e0 : (⟨#[32, 32]⟩ : ByteArray).size = 2 := rfl
            have e1 : (⟨#[10]⟩ : ByteArray).size = 1 := rfl
            rw [e0, e1] at hs
            clear e0 e1
            have c0 : ¬ (9223372036854775807 < ind.size + 2) := by omega
            have c1 : ¬ (9223372036854775807 < ind.size + 2 + 2) := by omega
            have c2 : ¬ (9223372036854775807 < ind.size + 2 + 2 + s.size) := by omega
            have c3 : ¬ (9223372036854775807 < ind.size + 2 + 2 + s.size + 1) := by omega
            have cz : ¬ (9223372036854775807 < r2.size + (ind.size + 2 + 2 + s.size + 1)) := by omega
            have HF := Lib.hid hF2
            have j2 : (j : Int) < (y.items.length : Int) := by omega
            clear hF0 hF2 hs hs0 hcell2
            go_wp2
            go_roundg (y.items.length - (j + 1))
            case measure => omega
            case rel => exact ⟨j + 1, _, rfl, by go_num, by omega, HF, Lib.hid rfl⟩
          · have HF := Lib.hid (show Fits r2 (depsT (bs ind) (x.keys.drop (i + 1)) (x.items.drop (i + 1)) ++ rest) whole by
              have h := HFj.out
              rw [linesT_end (by omega), List.nil_append, ← HREST.out] at h
              exact h)
            go_wp2
            go_roundg (x.items.length - (i + 1))
            case measure => omega
            case rel => exact ⟨i + 1, _, rfl, by go_num, by omega, HF, HBr⟩
      · have HF := Lib.hid (show Fits r1 rest whole by
          have h := HFr.out
          rwa [depsT_end (by omega), List.nil_append] at h)
        go_wp2
        exact HK.out.at (u := u) (lo := 626) (hi := 704) HF.out (HBr.out) (by unfold DFrame; kernel_rfl)

end Go.Proofs.YthdnkcofcbinhaaGreatDoor

/- describeSchema: sections. -/
namespace Go.Proofs.YthdnkcofcbinhaaGreatDoor
open Go.RowKit

set_option maxRecDepth 1000000 in
set_option maxHeartbeats 8000000 in
theorem sec_Id (S : Nat → Prop) (w0 : World) (D : Nat) (Ok : Dat → Prop) (sch o : Option Dat) (b : Nat) (ind r : ByteArray) (rest whole : List UInt8) (u : Nat → Value) (w : World) (K : Act → World → Prop) (Q' : Exit → Act → World → Prop) (f : Value)
    (hb : Below w0.heap.size w0 w) (hf0 : w0.cell? ⟨b, 2, none⟩ = some f) (ho : FieldO S w0 (Sch S w0 D) 1 o f)
    (f1 : Value) (hf1 : w0.cell? ⟨b, 1, none⟩ = some f1) (hsch : ∀ x, o = some x → ∃ s0, sch = some s0 ∧ PtrTo S w0 f1 (.string s0.text)) (hz : ∀ s0, sch = some s0 → s0.text.size ≤ 9223372036854775807) (hF : Fits r (secO (descr D) (bs ind) sch (kId, 15, [105, 100]) o ++ rest) whole) (hW : whole.length ≤ 9223372036854775807) (hK : DK b ind rest whole w K) :
    (dSec 5).wp Tryz.prog (Exit.then K Q') (dlit b ind r u) w := by
  have HK := Lib.hid hK
  have hf := cell_up hb _ _ hf0
  clear hK hf0
  cases o with
  | none =>
    have e : f = .pointer none := ho
    subst e
    have HF := Lib.hid (show Fits r rest whole from hF)
    clear hF ho
    dsimp only [dlit]
    conv => arg 2; whnf
    go_wp2
    exact HK.out.at (u := u) (lo := 110) (hi := 151) HF.out (Below.refl _ _) (by unfold DFrame; kernel_rfl)
  | some x =>
    obtain ⟨bx, ox, rfl, -, hx0⟩ := (show PtrTo S w0 f (.string x.text) from ho)
    have hx := cell_up hb _ _ hx0
    obtain ⟨s0, rfl, by_, oy, rfl, -, hy0⟩ := hsch x rfl
    have hy := cell_up hb _ _ hy0
    have hg := cell_up hb _ _ hf1
    have HC := Lib.hid (Trim_any s0.text w (hz s0 rfl))
    have HF0 := Lib.hid hF
    clear hx0 hy0 hF ho hf1 hsch hz
    dsimp only [dlit]
    conv => arg 2; whnf
    go_wp2_with fail
    go_at_call 57
    refine HC.out.mono ?_
    rintro e w1 ⟨tt, rfl, ht, rfl⟩
    have hpl : plainId (bs s0.text) = (decide (bs tt = [104, 116, 116, 112, 58, 47, 47, 106, 115, 111, 110, 45, 115, 99, 104, 101, 109, 97, 46, 111, 114, 103, 47, 100, 114, 97, 102, 116, 45, 48, 52, 47, 115, 99, 104, 101, 109, 97, 35]) || (decide (bs tt = [35]) || decide (bs tt = []))) := by
      simp only [plainId, ← ht]
    rcases bytes_or tt ⟨#[104, 116, 116, 112, 58, 47, 47, 106, 115, 111, 110, 45, 115, 99, 104, 101, 109, 97, 46, 111, 114, 103, 47, 100, 114, 97, 102, 116, 45, 48, 52, 47, 115, 99, 104, 101, 109, 97, 35]⟩ with ⟨a1, a2⟩ | ⟨a1, a2⟩
    · have hp : plainId (bs s0.text) = true := by rw [hpl, a2]; rfl
      subst a2
      clear hpl ht a1
      have hF1 : Fits (r ++ (ind ++ ⟨#[105, 100, 58, 32]⟩ ++ x.text ++ ⟨#[10]⟩)) rest whole := HF0.out.app (by simp [secO, hp, bs_app, bs])
      have hs := hF1.size
      simp only [ByteArray.size_append] at hs
      have e0 : (⟨#[105, 100, 58, 32]⟩ : ByteArray).size = 4 := rfl
      have e1 : (⟨#[10]⟩ : ByteArray).size = 1 := rfl
      rw [e0, e1] at hs
      clear e0 e1
      have c0 : ¬ (9223372036854775807 < ind.size + 4) := by omega
      have c1 : ¬ (9223372036854775807 < ind.size + 4 + x.text.size) := by omega
      have c2 : ¬ (9223372036854775807 < ind.size + 4 + x.text.size + 1) := by omega
      have cz : ¬ (9223372036854775807 < r.size + (ind.size + 4 + x.text.size + 1)) := by omega
      have HF := Lib.hid hF1
      clear hF1 hs
      go_wp2
      exact HK.out.at (u := u) (lo := 110) (hi := 151) HF.out (Below.refl _ _) (by unfold DFrame; kernel_rfl)
    rcases bytes_or tt ⟨#[35]⟩ with ⟨b1, b2⟩ | ⟨b1, b2⟩
    · have hp : plainId (bs s0.text) = true := by rw [hpl, b2]; rfl
      subst b2
      clear hpl ht a1 a2 b1
      have hF1 : Fits (r ++ (ind ++ ⟨#[105, 100, 58, 32]⟩ ++ x.text ++ ⟨#[10]⟩)) rest whole := HF0.out.app (by simp [secO, hp, bs_app, bs])
      have hs := hF1.size
      simp only [ByteArray.size_append] at hs
      have e0 : (⟨#[105, 100, 58, 32]⟩ : ByteArray).size = 4 := rfl
      have e1 : (⟨#[10]⟩ : ByteArray).size = 1 := rfl
      rw [e0, e1] at hs
      clear e0 e1
      have c0 : ¬ (9223372036854775807 < ind.size + 4) := by omega
      have c1 : ¬ (9223372036854775807 < ind.size + 4 + x.text.size) := by omega
      have c2 : ¬ (9223372036854775807 < ind.size + 4 + x.text.size + 1) := by omega
      have cz : ¬ (9223372036854775807 < r.size + (ind.size + 4 + x.text.size + 1)) := by omega
      have HF := Lib.hid hF1
      clear hF1 hs
      go_wp2
      exact HK.out.at (u := u) (lo := 110) (hi := 151) HF.out (Below.refl _ _) (by unfold DFrame; kernel_rfl)
    rcases bytes_or tt ⟨#[]⟩ with ⟨d1, d2⟩ | ⟨d1, d2⟩
    · have hp : plainId (bs s0.text) = true := by rw [hpl, d2]; rfl
      subst d2
      clear hpl ht a1 a2 b1 b2 d1
      have hF1 : Fits (r ++ (ind ++ ⟨#[105, 100, 58, 32]⟩ ++ x.text ++ ⟨#[10]⟩)) rest whole := HF0.out.app (by simp [secO, hp, bs_app, bs])
      have hs := hF1.size
      simp only [ByteArray.size_append] at hs
      have e0 : (⟨#[105, 100, 58, 32]⟩ : ByteArray).size = 4 := rfl
      have e1 : (⟨#[10]⟩ : ByteArray).size = 1 := rfl
      rw [e0, e1] at hs
      clear e0 e1
      have c0 : ¬ (9223372036854775807 < ind.size + 4) := by omega
      have c1 : ¬ (9223372036854775807 < ind.size + 4 + x.text.size) := by omega
      have c2 : ¬ (9223372036854775807 < ind.size + 4 + x.text.size + 1) := by omega
      have cz : ¬ (9223372036854775807 < r.size + (ind.size + 4 + x.text.size + 1)) := by omega
      have HF := Lib.hid hF1
      clear hF1 hs
      go_wp2
      exact HK.out.at (u := u) (lo := 110) (hi := 151) HF.out (Below.refl _ _) (by unfold DFrame; kernel_rfl)
    have ne : ∀ c : ByteArray, tt ≠ c → bs tt ≠ bs c := fun c h e => h (ByteArray.ext (Array.ext' e))
    have hp : plainId (bs s0.text) = false := by
      rw [hpl, decide_eq_false (ne _ a2), decide_eq_false (ne _ b2), decide_eq_false (ne _ d2)]
      rfl
    rw [ByteArray.toList_eq (bs := ⟨#[104, 116, 116, 112, 58, 47, 47, 106, 115, 111, 110, 45, 115, 99, 104, 101, 109, 97, 46, 111, 114, 103, 47, 100, 114, 97, 102, 116, 45, 48, 52, 47, 115, 99, 104, 101, 109, 97, 35]⟩)] at a1
    rw [ByteArray.toList_eq (bs := ⟨#[35]⟩)] at b1
    rw [ByteArray.toList_eq (bs := ⟨#[]⟩)] at d1
    dsimp only at a1 b1 d1
    have d3 : tt.toList.isEmpty = false := by
      cases h : tt.toList with
      | nil => rw [h] at d1; simp at d1
      | cons a l => rfl
    have d4 : ¬ tt = ByteArray.empty := d2
    clear hpl ht a2 b2 ne
    have hF1 : Fits (r ++ (ind ++ ⟨#[36, 105, 100, 58, 32]⟩ ++ x.text ++ ⟨#[10]⟩)) rest whole := HF0.out.app (by simp [secO, hp, bs_app, bs])
    have hs := hF1.size
    simp only [ByteArray.size_append] at hs
    have e0 : (⟨#[36, 105, 100, 58, 32]⟩ : ByteArray).size = 5 := rfl
    have e1 : (⟨#[10]⟩ : ByteArray).size = 1 := rfl
    rw [e0, e1] at hs
    clear e0 e1
    have c0 : ¬ (9223372036854775807 < ind.size + 5) := by omega
    have c1 : ¬ (9223372036854775807 < ind.size + 5 + x.text.size) := by omega
    have c2 : ¬ (9223372036854775807 < ind.size + 5 + x.text.size + 1) := by omega
    have cz : ¬ (9223372036854775807 < r.size + (ind.size + 5 + x.text.size + 1)) := by omega
    have HF := Lib.hid hF1
    clear hF1 hs
    go_wp2
    exact HK.out.at (u := u) (lo := 110) (hi := 151) HF.out (Below.refl _ _) (by unfold DFrame; kernel_rfl)

end Go.Proofs.YthdnkcofcbinhaaGreatDoor
