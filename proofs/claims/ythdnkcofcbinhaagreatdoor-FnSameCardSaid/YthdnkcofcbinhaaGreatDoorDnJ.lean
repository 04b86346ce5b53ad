/- The text that describes a schema is that of its keywords; and its length: the plain words (no program's steps here). -/
import Derived.Test.YthdnkcofcbinhaaGreatDoorBwJ
import Derived.Test.YthdnkcofcbinhaaGreatDoorKwJ
import Derived.Test.YthdnkcofcbinhaaGreatDoorNs4J
set_option linter.unusedVariables false
set_option linter.unusedSimpArgs false
namespace Go.Proofs.YthdnkcofcbinhaaGreatDoor
open Go.RowKit

theorem Plain.succ : ∀ {D : Nat} {v : Dat}, Plain D v → Plain (D + 1) v
  | 0, _, h => .inl h
  | D + 1, _, h => by
    rcases h with h | h | h
    · exact .inl h
    · obtain ⟨h1, h2, h3, h4, h5, h6⟩ := h
      exact .inr (.inl ⟨h1, h2, h3, h4, h5, fun i hi => Plain.succ (h6 i hi)⟩)
    · obtain ⟨h1, h2, h3, h4, h5, h6, h7⟩ := h
      exact .inr (.inr ⟨h1, h2, h3, h4, h5, h6, fun i hi => Plain.succ (h7 i hi)⟩)

theorem normD_kind (d : Nat) (v : Dat) : (normD d v).kind = 5 := by cases d <;> rfl
theorem secs_code : ∀ y ∈ secs, (y.2.1 = 15 ∧ shapeN y.1 = 1) ∨ (shapeN y.1 = y.2.1 ∧ y.2.1 ≠ 0) := by decide +kernel
theorem schema_code : shapeN kSSchema = 1 := by decide +kernel

section
variable {R : List UInt8 → Dat → List UInt8} {g : Dat → Dat}
theorem itemsT_map (ind : List UInt8) : ∀ (xs : List Dat) (n : Nat), (∀ x ∈ xs, ∀ i, R i (g x) = R i x) → itemsT R ind n (xs.map g) = itemsT R ind n xs
  | [], _, _ => rfl
  | x :: xs, n, h => by
    simp only [List.map_cons, itemsT]
    rw [h x (List.mem_cons_self ..), itemsT_map ind xs (n + 1) (fun y hy => h y (List.mem_cons_of_mem _ hy))]
theorem namedT_map (ind : List UInt8) : ∀ (ks : List ByteArray) (xs : List Dat), (∀ x ∈ xs, ∀ i, R i (g x) = R i x) → namedT R ind ks (xs.map g) = namedT R ind ks xs
  | [], [], _ => rfl
  | [], _ :: _, _ => rfl
  | _ :: _, [], _ => rfl
  | k :: ks, x :: xs, h => by
    simp only [List.map_cons, namedT]
    rw [h x (List.mem_cons_self ..), namedT_map ind ks xs (fun y hy => h y (List.mem_cons_of_mem _ hy))]
theorem listT_map (ind : List UInt8) : ∀ (xs : List Dat), (∀ x ∈ xs, ∀ i, R i (g x) = R i x) → listT R ind (xs.map g) = listT R ind xs
  | [], _ => rfl
  | x :: xs, h => by
    simp only [List.map_cons, listT]
    rw [h x (List.mem_cons_self ..), listT_map ind xs (fun y hy => h y (List.mem_cons_of_mem _ hy))]
end

theorem mem_get {P : Dat → Prop} {x : Dat} (h : ∀ i (h : i < x.items.length), P x.items[i]) : ∀ y ∈ x.items, P y := by
  intro y hy
  obtain ⟨i, hi, rfl⟩ := List.getElem_of_mem hy
  exact h i hi

/-- A keyword's text is that of what is kept of its value. -/
theorem turn_sec {R : List UInt8 → Dat → List UInt8} {f : Dat → Dat} {c : Nat} {x : Dat} (name ind : List UInt8) (hk : ∀ z, (f z).kind = 5) (hf : FitN IsShp c x) (h0 : IsShp x → ∀ i, R i (f x) = R i x)
    (h1 : ∀ y ∈ x.items, IsShp y → ∀ i, R i (f y) = R i y) : secT R c name ind (turnD f c x) = secT R c name ind x := by
  have all : (∀ i (h : i < x.items.length), IsShp x.items[i]) → ∀ y ∈ x.items, ∀ i, R i ((fun y => if y.kind = 5 then f y else y) y) = R i y := by
    intro hs y hy i
    simp only [(mem_get hs y hy).kind, if_true]
    exact h1 y hy (mem_get hs y hy) i
  unfold FitN at hf
  split at hf
  · rfl
  · rfl
  · rfl
  · rfl
  · simp only [turnD, secT, if_true]
    rw [h0 hf]
  · rcases hf with hf | hf
    · have e : turnD f 6 x = x := by simp [turnD, hf]
      rw [e]
    · have e : turnD f 6 x = f x := by simp [turnD, hf.kind]
      rw [e]
      simp only [secT, hk, hf.kind, if_true]
      rw [h0 hf]
  · rcases hf with hf | ⟨hk4, hs⟩
    · have e : turnD f 7 x = f x := by simp [turnD, hf.kind]
      rw [e]
      simp only [secT, hk, hf.kind, if_true]
      rw [h0 hf]
    · have e : turnD f 7 x = allD f x := by simp [turnD, hk4]
      rw [e]
      have e1 : (allD f x).kind = 4 := hk4
      have e2 : (allD f x).items = x.items.map fun y => if y.kind = 5 then f y else y := rfl
      simp only [secT, e1, hk4, e2]
      rw [itemsT_map ind x.items 0 (all hs)]
      simp
  · rfl
  · have e : turnD f 9 x = allD f x := by simp [turnD]
    rw [e]
    have e2 : (allD f x).items = x.items.map fun y => if y.kind = 5 then f y else y := rfl
    have e3 : (allD f x).keys = x.keys := rfl
    simp only [secT, e2, e3]
    rw [namedT_map ind x.keys x.items (all hf.2)]
  · rfl
  · rfl
  · rfl
  · have e : turnD f 13 x = allD f x := by simp [turnD]
    rw [e]
    have e2 : (allD f x).items = x.items.map fun y => if y.kind = 5 then f y else y := rfl
    simp only [secT, e2]
    rw [listT_map ind x.items (all hf.2)]
  · rename_i code n1 n2 n3 n4 n5 n6 n7 n8 n9 n10 n11 n12 n13
    have e : turnD f c x = x := by
      unfold turnD
      rw [if_neg n5, if_neg n6, if_neg n7, if_neg (by rintro (h | h); exact n9 h; exact n13 h)]
    rw [e]

theorem flatMap_same {α : Type} {f g : α → List UInt8} : ∀ l : List α, (∀ y ∈ l, f y = g y) → l.flatMap f = l.flatMap g
  | [], _ => rfl
  | y :: l, h => by
    rw [List.flatMap_cons, List.flatMap_cons, h y (List.mem_cons_self ..), flatMap_same l (fun z hz => h z (List.mem_cons_of_mem _ hz))]

/-- A schema's text is that of its keywords alone. -/
theorem descr_norm : ∀ (d D : Nat) (v : Dat) (ind : List UInt8), Plain D v → IsShp v → descr d ind (normD (D + 1) v) = descr d ind v := by
  intro d
  induction d with
  | zero => intros; rfl
  | succ d ih =>
    intro D v ind hp hs
    unfold descr
    refine flatMap_same _ (fun y hy => ?_)
    have hcode := secs_code y hy
    have h0 : shapeN y.1 ≠ 0 := by rcases hcode with ⟨_, h⟩ | ⟨h, h'⟩ <;> omega
    have hsch : atD (normD (D + 1) v) kSSchema = atD v kSSchema := by
      rw [atD_norm (by rw [schema_code]; omega), schema_code]
      have e : turnD (normD D) 1 = id := by
        funext x
        simp [turnD]
      rw [e, Option.map_id]
      rfl
    rw [hsch, atD_norm h0]
    cases hx : atD v y.1 with
    | none => rfl
    | some x =>
      simp only [Option.map_some]
      obtain ⟨i, h1, h2, hkey, rfl⟩ := atD_place hx
      have hfit := hs.fit h1 h2
      rw [hkey] at hfit
      obtain ⟨E, hE, hpE⟩ := hp.item h2
      rcases hcode with ⟨hc, hc1⟩ | ⟨hc, hc1⟩
      · rw [hc1]
        have e : turnD (normD D) 1 v.items[i] = v.items[i] := by simp [turnD]
        rw [e]
      · simp only [secO]
        have h15 : y.2.1 ≠ 15 := by
          have := shapeN_le y.1
          omega
        rw [if_neg h15, if_neg h15, ← hc]
        refine turn_sec _ _ (normD_kind D) hfit (fun hsx j => ?_) (fun z hz hsz j => ?_)
        · subst hE
          exact ih E _ j hpE hsx
        · obtain ⟨k, hk, rfl⟩ := List.getElem_of_mem hz
          obtain ⟨E', hE', hpE'⟩ := hpE.item hk
          subst hE'
          subst hE
          exact ih (E' + 1) _ j hpE'.succ hsz

/-- Schemas with the same keywords have one text. -/
theorem descr_same {D : Nat} {a b : Dat} (d : Nat) (ind : List UInt8) (ha : Plain D a) (hb : Plain D b) (sa : IsShp a) (sb : IsShp b) (h : normD (D + 1) a = normD (D + 1) b) : descr d ind a = descr d ind b := by
  rw [← descr_norm d D a ind ha sa, ← descr_norm d D b ind hb sb, h]
end Go.Proofs.YthdnkcofcbinhaaGreatDoor

/- How long the text that describes a schema can be (no program's steps here). -/
namespace Go.Proofs.YthdnkcofcbinhaaGreatDoor
open Go.RowKit

theorem wtL_cons (x : Dat) (xs : List Dat) : wtL (x :: xs) = wt x + wtL xs := rfl
theorem wt_text (x : Dat) : 1 + x.text.size ≤ wt x := by rw [wt_eq]; omega
theorem wt_items (x : Dat) : 1 + keysW x.keys + wtL x.items ≤ wt x := by rw [wt_eq]; omega
theorem wt_pos (x : Dat) : 1 ≤ wt x := by rw [wt_eq]; omega
theorem bs_size (s : ByteArray) : (bs s).length = s.size := rfl
theorem boolT_len (x : Dat) : (boolT x).size ≤ 5 := by unfold boolT; split <;> decide
theorem int_len (n : Int) (h0 : -1000000000 < n) (h1 : n < 1000000000) : (bs (intText n)).length ≤ 21 := by
  have e : bs (intText n) = Lib.itoa n := by simp [intText]
  rw [e]
  exact Lib.itoa_length_le n (by omega) (by omega)

section
variable {R : List UInt8 → Dat → List UInt8} {ind : List UInt8} {M K : Nat}
theorem itemsT_len (hi : ind.length ≤ M) (hK : M + 40 ≤ K) : ∀ (xs : List Dat) (n : Nat), n + xs.length ≤ 60 → (∀ x ∈ xs, (R (ind ++ [32, 32, 32, 32]) x).length + K ≤ 4 * K * wt x) → (itemsT R ind n xs).length ≤ 4 * K * wtL xs
  | [], _, _, _ => by simp [itemsT]
  | x :: xs, n, hn, h => by
    have h1 := h x (List.mem_cons_self ..)
    have h2 := itemsT_len hi hK xs (n + 1) (by simp at hn; omega) (fun y hy => h y (List.mem_cons_of_mem _ hy))
    have h3 := int_len (n : Int) (by omega) (by simp at hn; omega)
    rw [wtL_cons, Nat.mul_add]
    simp only [itemsT, List.length_append, List.length_cons, List.length_nil] at h1 h3 ⊢
    omega
theorem namedT_len (hi : ind.length ≤ M) (hK : M + 40 ≤ K) : ∀ (ks : List ByteArray) (xs : List Dat), (∀ x ∈ xs, (R (ind ++ [32, 32, 32, 32]) x).length + K ≤ 4 * K * wt x) → (namedT R ind ks xs).length ≤ 4 * K * (keysW ks + wtL xs)
  | [], [], _ => by simp [namedT]
  | [], _ :: _, _ => by simp [namedT]
  | _ :: _, [], _ => by simp [namedT]
  | k :: ks, x :: xs, h => by
    have h1 := h x (List.mem_cons_self ..)
    have h2 := namedT_len hi hK ks xs (fun y hy => h y (List.mem_cons_of_mem _ hy))
    have h3 : k.size ≤ 4 * K * k.size := Nat.le_mul_of_pos_left _ (by omega)
    have e : (bs k).length = k.size := rfl
    simp only [wtL_cons, keysW, Nat.mul_add] at h2 ⊢
    simp only [namedT, List.length_append, List.length_cons, List.length_nil, e] at h1 ⊢
    omega
theorem linesT_len (hi : ind.length ≤ M) (hK : M + 40 ≤ K) : ∀ (xs : List Dat), (linesT ind xs).length ≤ 4 * K * wtL xs
  | [] => by simp [linesT]
  | x :: xs => by
    have h2 := linesT_len hi hK xs
    have h3 := Nat.mul_le_mul_left (4 * K) (wt_text x)
    have h4 : x.text.size ≤ 4 * K * x.text.size := Nat.le_mul_of_pos_left _ (by omega)
    have e : (bs x.text).length = x.text.size := rfl
    simp only [wtL_cons, Nat.mul_add] at h3 ⊢
    simp only [linesT, List.length_append, List.length_cons, List.length_nil, e]
    omega
theorem depsT_len (hi : ind.length ≤ M) (hK : M + 40 ≤ K) : ∀ (ks : List ByteArray) (xs : List Dat), (depsT ind ks xs).length ≤ 4 * K * (keysW ks + wtL xs)
  | [], [] => by simp [depsT]
  | [], _ :: _ => by simp [depsT]
  | _ :: _, [] => by simp [depsT]
  | k :: ks, x :: xs => by
    have h1 := linesT_len hi hK x.items
    have h2 := depsT_len hi hK ks xs
    have h3 : k.size ≤ 4 * K * k.size := Nat.le_mul_of_pos_left _ (by omega)
    have h5 := Nat.mul_le_mul_left (4 * K) (wt_items x)
    have e : (bs k).length = k.size := rfl
    simp only [wtL_cons, keysW, Nat.mul_add] at h2 h5 ⊢
    simp only [depsT, List.length_append, List.length_cons, List.length_nil, e]
    omega
theorem enumT_len (hi : ind.length ≤ M) (hK : M + 40 ≤ K) : ∀ (xs : List Dat), (enumT ind xs).length ≤ 4 * K * wtL xs
  | [] => by simp [enumT]
  | x :: xs => by
    have h2 := enumT_len hi hK xs
    have h3 := Nat.mul_le_mul_left (4 * K) (wt_text x)
    have h4 : x.text.size ≤ 4 * K * x.text.size := Nat.le_mul_of_pos_left _ (by omega)
    have e : (bs (if x.kind = 3 then x.text else boolT x)).length ≤ x.text.size + 5 := by
      have := boolT_len x
      split
      · rw [bs_size]; omega
      · rw [bs_size]; omega
    simp only [wtL_cons, Nat.mul_add] at h3 ⊢
    simp only [enumT, List.length_append, List.length_cons, List.length_nil]
    omega
theorem listT_len (hi : ind.length ≤ M) (hK : M + 40 ≤ K) : ∀ (xs : List Dat), (∀ x ∈ xs, (R (ind ++ [32, 32]) x).length + K ≤ 4 * K * wt x) → (listT R ind xs).length ≤ 4 * K * wtL xs
  | [], _ => by simp [listT]
  | x :: xs, h => by
    have h1 := h x (List.mem_cons_self ..)
    have h2 := listT_len hi hK xs (fun y hy => h y (List.mem_cons_of_mem _ hy))
    rw [wtL_cons, Nat.mul_add]
    simp only [listT, List.length_append, List.length_cons, List.length_nil] at h1 ⊢
    omega
theorem joinT_len {sep : List UInt8} (hs : sep.length ≤ 2) (hK : M + 40 ≤ K) : ∀ (xs : List Dat), (joinT sep xs).length ≤ 4 * K * wtL xs := by
  intro xs
  have tail : ∀ ys : List Dat, (Lib.joinTail sep (ys.map fun x => bs x.text)).length ≤ 4 * K * wtL ys := by
    intro ys
    induction ys with
    | nil => simp [Lib.joinTail]
    | cons y ys ih =>
      have h3 := Nat.mul_le_mul_left (4 * K) (wt_text y)
      have h4 : y.text.size ≤ 4 * K * y.text.size := Nat.le_mul_of_pos_left _ (by omega)
      have e : (bs y.text).length = y.text.size := rfl
      simp only [wtL_cons, Nat.mul_add] at h3 ⊢
      simp only [Lib.joinTail, List.map_cons, List.flatten_cons, List.length_append] at ih ⊢
      simp only [e] at *
      omega
  cases xs with
  | nil => simp [joinT, Lib.join_nil]
  | cons x xs =>
    have h3 := Nat.mul_le_mul_left (4 * K) (wt_text x)
    have h4 : x.text.size ≤ 4 * K * x.text.size := Nat.le_mul_of_pos_left _ (by omega)
    have h5 := tail xs
    have e : (bs x.text).length = x.text.size := rfl
    unfold joinT
    rw [List.map_cons, Lib.join_cons, List.length_append]
    simp only [wtL_cons, Nat.mul_add] at h3 ⊢
    simp only [e]
    omega

/-- A section is no longer than its value. -/
theorem secT_len {c : Nat} {name : List UInt8} {x : Dat} (hn : name.length ≤ 24) (hi : ind.length ≤ M) (hK : M + 64 ≤ K) (h60 : x.items.length ≤ 60) (h9 : -1000000000 < x.num ∧ x.num < 1000000000)
    (hR : ∀ j, j.length ≤ ind.length + 4 → (R j x).length + K ≤ 4 * K * wt x) (hI : ∀ y ∈ x.items, ∀ j, j.length ≤ ind.length + 4 → (R j y).length + K ≤ 4 * K * wt y) : (secT R c name ind x).length ≤ 4 * K * wt x := by
  have w1 := Nat.mul_le_mul_left (4 * K) (wt_text x)
  have w2 := Nat.mul_le_mul_left (4 * K) (wt_items x)
  have t4 : x.text.size ≤ 4 * K * x.text.size := Nat.le_mul_of_pos_left _ (by omega)
  have e : (bs x.text).length = x.text.size := rfl
  have eb : (bs (boolT x)).length ≤ 5 := boolT_len x
  have ei := int_len x.num h9.1 h9.2
  have r2 := hR (ind ++ [32, 32]) (by simp)
  have r4 := hR (ind ++ [32, 32, 32, 32]) (by simp)
  have l1 := itemsT_len (R := R) hi (by omega : M + 40 ≤ K) x.items 0 (by omega) (fun y hy => hI y hy _ (by simp))
  have l2 := namedT_len (R := R) hi (by omega : M + 40 ≤ K) x.keys x.items (fun y hy => hI y hy _ (by simp))
  have l3 := depsT_len hi (by omega : M + 40 ≤ K) x.keys x.items
  have l4 := enumT_len hi (by omega : M + 40 ≤ K) x.items
  have l5 := listT_len (R := R) hi (by omega : M + 40 ≤ K) x.items (fun y hy => hI y hy _ (by simp))
  have l6 := joinT_len (sep := [32]) (by simp) (by omega : M + 40 ≤ K) x.items
  have l7 := joinT_len (sep := [44, 32]) (by simp) (by omega : M + 40 ≤ K) x.items
  simp only [Nat.mul_add] at w1 w2 l2 l3
  unfold secT
  split
  all_goals (try simp only [List.length_append, List.length_cons, List.length_nil, e])
  all_goals (try split)
  all_goals (try simp only [List.length_append, List.length_cons, List.length_nil, e])
  all_goals omega
end

/-- What sections take of the values is no more than the values hold. -/
theorem sum_at {f : ByteArray × Nat × List UInt8 → Option Dat → List UInt8} {C : Nat} (ss : List (ByteArray × Nat × List UInt8)) (hd : ss.Pairwise fun a b => a.1 ≠ b.1) (h0 : ∀ y ∈ ss, f y none = []) :
    ∀ l : List (ByteArray × Dat), (∀ y ∈ ss, ∀ p ∈ l, (f y (some p.2)).length ≤ C * wt p.2) → (ss.flatMap fun y => f y (atP y.1 l)).length ≤ C * wtL (l.map (·.2)) := by
  intro l
  induction l with
  | nil =>
    intro _
    have : (ss.flatMap fun y => f y (atP y.1 [])) = [] := by
      rw [List.flatMap_eq_nil_iff]
      intro y hy
      exact h0 y hy
    rw [this]
    simp
  | cons p ps ih =>
    intro h
    have ih := ih (fun y hy q hq => h y hy q (List.mem_cons_of_mem _ hq))
    have hp := fun y hy => h y hy p (List.mem_cons_self ..)
    have key : ∀ ts : List (ByteArray × Nat × List UInt8), ts.Pairwise (fun a b => a.1 ≠ b.1) → (∀ y ∈ ts, y ∈ ss) → (ts.flatMap fun y => f y (atP y.1 (p :: ps))).length ≤ (if ∃ y ∈ ts, y.1 = p.1 then C * wt p.2 else 0) + (ts.flatMap fun y => f y (atP y.1 ps)).length := by
      intro ts
      induction ts with
      | nil => intro _ _; simp
      | cons t ts iht =>
        intro hpw hin
        rw [List.pairwise_cons] at hpw
        have iht := iht hpw.2 (fun y hy => hin y (List.mem_cons_of_mem _ hy))
        rw [List.flatMap_cons, List.flatMap_cons, List.length_append, List.length_append]
        by_cases ht : p.1 = t.1
        · have e : atP t.1 (p :: ps) = some p.2 := by simp [atP, ht]
          have no : ¬ ∃ y ∈ ts, y.1 = p.1 := by
            rintro ⟨y, hy, e⟩
            exact hpw.1 y hy (ht.symm.trans e.symm)
          rw [if_neg no] at iht
          rw [if_pos ⟨t, List.mem_cons_self .., ht.symm⟩, e]
          have := hp t (hin t (List.mem_cons_self ..))
          omega
        · have e : atP t.1 (p :: ps) = atP t.1 ps := by simp [atP, ht]
          rw [e]
          have : (if ∃ y ∈ ts, y.1 = p.1 then C * wt p.2 else 0) ≤ (if ∃ y ∈ t :: ts, y.1 = p.1 then C * wt p.2 else 0) := by
            by_cases hh : ∃ y ∈ ts, y.1 = p.1
            · obtain ⟨y, hy, e⟩ := hh
              rw [if_pos ⟨y, hy, e⟩, if_pos ⟨y, List.mem_cons_of_mem _ hy, e⟩]
              exact Nat.le_refl _
            · rw [if_neg hh]
              exact Nat.zero_le _
          omega
    have := key ss hd (fun y hy => hy)
    have h1 : (if ∃ y ∈ ss, y.1 = p.1 then C * wt p.2 else 0) ≤ C * wt p.2 := by split <;> omega
    rw [List.map_cons, wtL_cons, Nat.mul_add]
    omega
theorem secs_apart : secs.Pairwise fun a b => a.1 ≠ b.1 := by decide +kernel
theorem secs_name : ∀ y ∈ secs, y.2.2.length ≤ 24 := by decide +kernel

theorem pairs_items {v : Dat} (h : v.keys.length = v.items.length) : (pairs v).map (·.2) = v.items := by
  unfold pairs
  rw [List.map_snd_zip]
  omega

/-- The text of a schema is no longer than so many times what the schema holds. -/
theorem descr_len (M K : Nat) (hK : M + 64 ≤ K) : ∀ (d E : Nat) (ind : List UInt8) (v : Dat), Plain E v → ind.length + 4 * d ≤ M → (descr d ind v).length + K ≤ 4 * K * wt v := by
  intro d
  induction d with
  | zero =>
    intro E ind v _ _
    have := Nat.mul_le_mul_left (4 * K) (wt_pos v)
    simp only [descr, List.length_nil]
    omega
  | succ d ih =>
    intro E ind v hp hM
    have mem : ∀ p ∈ pairs v, ∃ E', Plain E' p.2 := by
      intro p hp2
      have : p.2 ∈ v.items := (List.of_mem_zip hp2).2
      obtain ⟨i, hi, e⟩ := List.getElem_of_mem this
      obtain ⟨E', _, h⟩ := hp.item hi
      exact ⟨E', e ▸ h⟩
    have hs := sum_at (f := fun y o => secO (descr d) ind (atD v kSSchema) y o) (C := 4 * K) secs secs_apart (fun _ _ => rfl) (pairs v) (fun y hy p hp2 => by
      obtain ⟨E', hE⟩ := mem p hp2
      have hR : ∀ j : List UInt8, j.length ≤ ind.length + 4 → (descr d j p.2).length + K ≤ 4 * K * wt p.2 := fun j hj => ih E' j p.2 hE (by omega)
      have hI : ∀ z ∈ p.2.items, ∀ j : List UInt8, j.length ≤ ind.length + 4 → (descr d j z).length + K ≤ 4 * K * wt z := fun z hz j hj => by
        obtain ⟨k, hk, rfl⟩ := List.getElem_of_mem hz
        obtain ⟨E2, _, h2⟩ := hE.item hk
        exact ih E2 j _ h2 (by omega)
      show (secO (descr d) ind (atD v kSSchema) y (some p.2)).length ≤ _
      simp only [secO]
      split
      · have w1 := Nat.mul_le_mul_left (4 * K) (wt_text p.2)
        have t4 : p.2.text.size ≤ 4 * K * p.2.text.size := Nat.le_mul_of_pos_left _ (by omega)
        have e : (bs p.2.text).length = p.2.text.size := rfl
        simp only [Nat.mul_add] at w1
        split <;> simp only [List.length_append, List.length_cons, List.length_nil, e] <;> omega
      · exact secT_len (secs_name y hy) (by omega) hK hE.few hE.num hR hI)
    have hle : wtL ((pairs v).map (·.2)) ≤ wtL v.items := by
      have sub : ∀ (ks : List ByteArray) (xs : List Dat), wtL ((ks.zip xs).map (·.2)) ≤ wtL xs := by
        intro ks
        induction ks with
        | nil => intro xs; simp [wtL]
        | cons k ks ihk =>
          intro xs
          cases xs with
          | nil => simp [wtL]
          | cons x xs =>
            have := ihk xs
            simp only [List.zip_cons_cons, List.map_cons, wtL_cons]
            omega
      exact sub _ _
    have h1 := Nat.mul_le_mul_left (4 * K) hle
    have h2 := Nat.mul_le_mul_left (4 * K) (wt_items v)
    have e : (descr (d + 1) ind v).length = (secs.flatMap fun y => secO (descr d) ind (atD v kSSchema) y (atP y.1 (pairs v))).length := rfl
    rw [e]
    simp only [Nat.mul_add] at h2
    omega
end Go.Proofs.YthdnkcofcbinhaaGreatDoor
