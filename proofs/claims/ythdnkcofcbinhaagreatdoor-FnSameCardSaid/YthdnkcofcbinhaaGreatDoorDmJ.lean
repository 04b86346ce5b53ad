/- How long the text that describes plain data of twelve levels can be, whatever it holds: below what a machine holds (no program's steps here). -/
import Derived.Test.YthdnkcofcbinhaaGreatDoorDaJ
set_option linter.unusedVariables false
set_option linter.unusedSimpArgs false
namespace Go.Proofs.YthdnkcofcbinhaaGreatDoor
open Go.RowKit

theorem Plain.keys_small {D : Nat} {v : Dat} (hp : Plain D v) : ∀ k ∈ v.keys, k.size ≤ 200 := by
  have none : v.keys = [] → ∀ k ∈ v.keys, k.size ≤ 200 := fun h k hk => by rw [h] at hk; cases hk
  have flat : Flat v → v.keys = [] := by
    rintro (h' | h' | h' | h' | h')
    · exact h'.2.2.2.1
    · exact h'.2.2.2.1
    · exact h'.2.2.2.2.1
    · exact h'.2.2.2.2.2.1
    · exact h'.2.2.2.1
  cases D with
  | zero => exact none (flat hp)
  | succ D =>
    rcases hp with h | h | h
    · exact none (flat h)
    · exact none h.2.2.2.1
    · intro k hk
      obtain ⟨i, hi, rfl⟩ := List.getElem_of_mem hk
      exact (h.2.2.2.2.2.1 i hi hi).1.2
theorem Plain.no_items {v : Dat} (hp : Plain 0 v) : v.items = [] := by
  rcases hp with h' | h' | h' | h' | h'
  · exact h'.2.2.2.2
  · exact h'.2.2.2.2
  · exact h'.2.2.2.2.2
  · exact h'.2.2.2.2.2.2
  · exact h'.2.2.2.2
theorem Plain.no_keys {v : Dat} (hp : Plain 0 v) : v.keys = [] := by
  rcases hp with h' | h' | h' | h' | h'
  · exact h'.2.2.2.1
  · exact h'.2.2.2.1
  · exact h'.2.2.2.2.1
  · exact h'.2.2.2.2.2.1
  · exact h'.2.2.2.1

section
variable {R : List UInt8 → Dat → List UInt8} {ind : List UInt8} {a : Nat}
theorem itemsT_le (hi : ind.length ≤ 48) : ∀ (xs : List Dat) (n : Nat), n + xs.length ≤ 60 → (∀ x ∈ xs, (R (ind ++ [32, 32, 32, 32]) x).length ≤ a) → (itemsT R ind n xs).length ≤ xs.length * (252 + a)
  | [], _, _, _ => by simp [itemsT]
  | x :: xs, n, hn, h => by
    have h1 := h x (List.mem_cons_self ..)
    have h2 := itemsT_le hi xs (n + 1) (by simp at hn; omega) (fun y hy => h y (List.mem_cons_of_mem _ hy))
    have h3 := int_len (n : Int) (by omega) (by simp at hn; omega)
    simp only [itemsT, List.length_append, List.length_cons, List.length_nil, Nat.add_mul, Nat.one_mul] at h1 h3 ⊢
    omega
theorem namedT_le (hi : ind.length ≤ 48) : ∀ (ks : List ByteArray) (xs : List Dat), (∀ k ∈ ks, k.size ≤ 200) → (∀ x ∈ xs, (R (ind ++ [32, 32, 32, 32]) x).length ≤ a) → (namedT R ind ks xs).length ≤ xs.length * (252 + a)
  | [], [], _, _ => by simp [namedT]
  | [], _ :: _, _, _ => by simp [namedT]
  | _ :: _, [], _, _ => by simp [namedT]
  | k :: ks, x :: xs, hk, h => by
    have h1 := h x (List.mem_cons_self ..)
    have h2 := namedT_le hi ks xs (fun y hy => hk y (List.mem_cons_of_mem _ hy)) (fun y hy => h y (List.mem_cons_of_mem _ hy))
    have h3 := hk k (List.mem_cons_self ..)
    have e : (bs k).length = k.size := rfl
    simp only [namedT, List.length_append, List.length_cons, List.length_nil, e, Nat.add_mul, Nat.one_mul] at h1 ⊢
    omega
theorem linesT_le (hi : ind.length ≤ 48) : ∀ (xs : List Dat), (∀ x ∈ xs, x.text.size ≤ 200) → (linesT ind xs).length ≤ xs.length * 253
  | [], _ => by simp [linesT]
  | x :: xs, h => by
    have h2 := linesT_le hi xs (fun y hy => h y (List.mem_cons_of_mem _ hy))
    have h3 := h x (List.mem_cons_self ..)
    have e : (bs x.text).length = x.text.size := rfl
    simp only [linesT, List.length_append, List.length_cons, List.length_nil, e, Nat.add_mul, Nat.one_mul]
    omega
theorem depsT_le (hi : ind.length ≤ 48) : ∀ (ks : List ByteArray) (xs : List Dat), (∀ k ∈ ks, k.size ≤ 200) → (∀ x ∈ xs, (linesT ind x.items).length ≤ a) → (depsT ind ks xs).length ≤ xs.length * (252 + a)
  | [], [], _, _ => by simp [depsT]
  | [], _ :: _, _, _ => by simp [depsT]
  | _ :: _, [], _, _ => by simp [depsT]
  | k :: ks, x :: xs, hk, h => by
    have h1 := h x (List.mem_cons_self ..)
    have h2 := depsT_le hi ks xs (fun y hy => hk y (List.mem_cons_of_mem _ hy)) (fun y hy => h y (List.mem_cons_of_mem _ hy))
    have h3 := hk k (List.mem_cons_self ..)
    have e : (bs k).length = k.size := rfl
    simp only [depsT, List.length_append, List.length_cons, List.length_nil, e, Nat.add_mul, Nat.one_mul] at h1 ⊢
    omega
theorem enumT_le (hi : ind.length ≤ 48) : ∀ (xs : List Dat), (∀ x ∈ xs, x.text.size ≤ 200) → (enumT ind xs).length ≤ xs.length * 253
  | [], _ => by simp [enumT]
  | x :: xs, h => by
    have h2 := enumT_le hi xs (fun y hy => h y (List.mem_cons_of_mem _ hy))
    have h3 := h x (List.mem_cons_self ..)
    have e : (bs (if x.kind = 3 then x.text else boolT x)).length ≤ 200 := by
      have := boolT_len x
      split
      · rw [bs_size]; omega
      · rw [bs_size]; omega
    simp only [enumT, List.length_append, List.length_cons, List.length_nil, Nat.add_mul, Nat.one_mul]
    omega
theorem listT_le (hi : ind.length ≤ 48) : ∀ (xs : List Dat), (∀ x ∈ xs, (R (ind ++ [32, 32]) x).length ≤ a) → (listT R ind xs).length ≤ xs.length * (252 + a)
  | [], _ => by simp [listT]
  | x :: xs, h => by
    have h1 := h x (List.mem_cons_self ..)
    have h2 := listT_le hi xs (fun y hy => h y (List.mem_cons_of_mem _ hy))
    simp only [listT, List.length_append, List.length_cons, List.length_nil, Nat.add_mul, Nat.one_mul] at h1 ⊢
    omega

/-- A section's bound, by its code: b bounds the value's own text, a those of its items, d the lines of an item, n the number of items. -/
def capS (n b a d : Nat) : Nat → Nat
  | 5 => 272 + b
  | 6 => 272 + b
  | 7 => 272 + n * (252 + a)
  | 8 => 272 + n * 253
  | 9 => 272 + n * (252 + a)
  | 10 => 272 + n * (252 + d)
  | 11 => 272 + n * 253
  | 12 => 272 + n * 253
  | 13 => 272 + n * (252 + a)
  | _ => 272

theorem secT_le {c : Nat} {name : List UInt8} {x : Dat} {n b d : Nat} (hn : name.length ≤ 20) (hi : ind.length ≤ 48) (hx : x.items.length ≤ n) (h60 : n ≤ 60) (ht : x.text.size ≤ 200) (h9 : -1000000000 < x.num ∧ x.num < 1000000000) (hk : ∀ k ∈ x.keys, k.size ≤ 200) (hit : ∀ y ∈ x.items, y.text.size ≤ 200)
    (hb : b ≤ n * (252 + a)) (hR : ∀ j, j.length ≤ ind.length + 4 → (R j x).length ≤ b) (hI : ∀ y ∈ x.items, ∀ j, j.length ≤ ind.length + 4 → (R j y).length ≤ a) (hd : ∀ y ∈ x.items, (linesT ind y.items).length ≤ d) : (secT R c name ind x).length ≤ capS n b a d c := by
  have e : (bs x.text).length = x.text.size := rfl
  have eb : (bs (boolT x)).length ≤ 5 := boolT_len x
  have ei := int_len x.num h9.1 h9.2
  have r2 := hR (ind ++ [32, 32]) (by simp)
  have r4 := hR (ind ++ [32, 32, 32, 32]) (by simp)
  have m1 := Nat.mul_le_mul_right (252 + a) hx
  have m2 := Nat.mul_le_mul_right (252 + d) hx
  have m3 := Nat.mul_le_mul_right 253 hx
  have m4 : 202 * x.items.length ≤ x.items.length * 253 := by omega
  have l1 := itemsT_le (R := R) hi x.items 0 (by omega) (fun y hy => hI y hy _ (by simp))
  have l2 := namedT_le (R := R) hi x.keys x.items hk (fun y hy => hI y hy _ (by simp))
  have l3 := depsT_le hi x.keys x.items hk hd
  have l4 := enumT_le hi x.items hit
  have l5 := listT_le (R := R) hi x.items (fun y hy => hI y hy _ (by simp))
  have l6 := joinT_small (sep := [32]) (by simp) x.items hit
  have l7 := joinT_small (sep := [44, 32]) (by simp) x.items hit
  unfold secT
  split
  all_goals simp only [capS]
  all_goals (try simp only [List.length_append, List.length_cons, List.length_nil, e])
  all_goals (try split)
  all_goals (try simp only [List.length_append, List.length_cons, List.length_nil, e])
  all_goals omega
end

/-- A bound on the text of plain data, by its levels. -/
def capD : Nat → Nat
  | 0 => 0
  | 1 => 8160
  | l + 2 => 8160 + 3 * capD (l + 1) + 420 * (252 + capD l) + 45540 + 60 * (252 + if l = 0 then 0 else 15180)

theorem secs_short : ∀ y ∈ secs, y.2.2.length ≤ 20 := by decide +kernel
theorem capD_grows : ∀ l, l < 12 → capD (l + 1) ≤ 60 * (252 + capD l) := by decide +kernel
theorem capD_last : capD 12 ≤ 9223372036854775807 := by decide +kernel
theorem capS_sum (n b a d : Nat) : (secs.map fun y => capS n b a d y.2.1).sum = 8160 + 3 * b + 7 * (n * (252 + a)) + 3 * (n * 253) + n * (252 + d) := by
  simp only [secs, List.map_cons, List.map_nil, List.sum_cons, List.sum_nil, capS]
  omega

theorem atP_nil (key : ByteArray) {v : Dat} (h : v.keys = []) : atD v key = none := by
  unfold atD pairs
  rw [h]
  rfl
theorem sum_le {α : Type} {f g : α → Nat} : ∀ l : List α, (∀ y ∈ l, f y ≤ g y) → (l.map f).sum ≤ (l.map g).sum
  | [], _ => Nat.le_refl _
  | y :: l, h => by
    have h1 := h y (List.mem_cons_self ..)
    have h2 := sum_le l (fun z hz => h z (List.mem_cons_of_mem _ hz))
    simp only [List.map_cons, List.sum_cons]
    omega
theorem capS_base (n b a d : Nat) (c : Nat) : 272 ≤ capS n b a d c := by
  unfold capS
  split <;> omega

theorem secO_le {R : List UInt8 → Dat → List UInt8} {ind : List UInt8} {sch : Option Dat} {y : ByteArray × Nat × List UInt8} {x : Dat} {n b a d : Nat} (hi : ind.length ≤ 48) (ht : x.text.size ≤ 200) (h : (secT R y.2.1 y.2.2 ind x).length ≤ capS n b a d y.2.1) : (secO R ind sch y (some x)).length ≤ capS n b a d y.2.1 := by
  simp only [secO]
  split
  · have h1 := capS_base n b a d y.2.1
    have e : (bs x.text).length = x.text.size := rfl
    split <;> simp only [List.length_append, List.length_cons, List.length_nil, e] <;> omega
  · exact h

theorem descr_cap : ∀ (l d : Nat) (ind : List UInt8) (v : Dat), Plain l v → ind.length + 4 * l ≤ 48 → (descr d ind v).length ≤ capD l := by
  intro l
  induction l using Nat.strongRecOn with
  | _ l ih =>
    intro d ind v hp hi
    cases d with
    | zero => exact Nat.zero_le _
    | succ d =>
      cases l with
      | zero =>
        have : descr (d + 1) ind v = [] := by
          unfold descr
          rw [List.flatMap_eq_nil_iff]
          intro y _
          rw [atP_nil y.1 hp.no_keys]
          rfl
        rw [this]
        exact Nat.le_refl _
      | succ l =>
        have main : ∀ (n b a e : Nat), n ≤ 60 → b ≤ n * (252 + a) → (∀ x, Plain l x → x.items.length ≤ n) → (∀ x, Plain l x → ∀ j : List UInt8, j.length ≤ ind.length + 4 → (descr d j x).length ≤ b) →
            (∀ x, Plain l x → ∀ y ∈ x.items, ∀ j : List UInt8, j.length ≤ ind.length + 4 → (descr d j y).length ≤ a) → (∀ x, Plain l x → ∀ y ∈ x.items, (linesT ind y.items).length ≤ e) →
            (descr (d + 1) ind v).length ≤ 8160 + 3 * b + 7 * (n * (252 + a)) + 3 * (n * 253) + n * (252 + e) := by
          intro n b a e h60 hb hn hR hI hd
          rw [← capS_sum n b a e]
          unfold descr
          rw [List.length_flatMap]
          refine sum_le _ (fun y hy => ?_)
          cases hx : atD v y.1 with
          | none => exact Nat.zero_le _
          | some x =>
            obtain ⟨i, h1, h2, -, rfl⟩ := atD_place hx
            obtain ⟨E, hE, hpE⟩ := hp.item h2
            obtain rfl : E = l := by omega
            refine secO_le (by omega) hpE.text (secT_le (secs_short y hy) (by omega) (hn _ hpE) h60 hpE.text hpE.num hpE.keys_small (fun z hz => ?_) hb (hR _ hpE) (hI _ hpE) (hd _ hpE))
            obtain ⟨k, hk, rfl⟩ := List.getElem_of_mem hz
            obtain ⟨E2, _, h2⟩ := hpE.item hk
            exact h2.text
        cases l with
        | zero =>
          have h := main 0 0 0 0 (by omega) (by omega) (fun x hx => by rw [hx.no_items]; simp) (fun x hx j hj => ih 0 (by omega) d j x hx (by omega)) (fun x hx y hy => by rw [hx.no_items] at hy; cases hy) (fun x hx y hy => by rw [hx.no_items] at hy; cases hy)
          simpa [capD] using h
        | succ l =>
          have h := main 60 (capD (l + 1)) (capD l) (if l = 0 then 0 else 15180) (Nat.le_refl _) (capD_grows l (by omega)) (fun x hx => hx.few) (fun x hx j hj => ih (l + 1) (by omega) d j x hx (by omega))
            (fun x hx y hy j hj => by
              obtain ⟨k, hk, rfl⟩ := List.getElem_of_mem hy
              obtain ⟨E2, hE2, h2⟩ := hx.item hk
              obtain rfl : E2 = l := by omega
              exact ih E2 (by omega) d j _ h2 (by omega))
            (fun x hx y hy => by
              obtain ⟨k, hk, rfl⟩ := List.getElem_of_mem hy
              obtain ⟨E2, hE2, h2⟩ := hx.item hk
              obtain rfl : E2 = l := by omega
              by_cases h0 : E2 = 0
              · subst h0
                rw [h2.no_items]
                simp [linesT]
              · rw [if_neg h0]
                have hf := h2.few
                have hl := linesT_le (ind := ind) (by omega) x.items[k].items (fun z hz => by
                  obtain ⟨k', hk', rfl⟩ := List.getElem_of_mem hz
                  obtain ⟨E3, _, h3⟩ := h2.item hk'
                  exact h3.text)
                have hm := Nat.mul_le_mul_right 253 hf
                omega)
          simp only [capD]
          omega
end Go.Proofs.YthdnkcofcbinhaaGreatDoor
