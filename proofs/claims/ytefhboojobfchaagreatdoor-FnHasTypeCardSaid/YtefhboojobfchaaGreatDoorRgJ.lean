/- A region in whatever order, of which one operation (number L: a store that ends it) may break the condition that the loads need: they wait for no store, and it waits for them. -/
import Derived.OrdersHeld
import Derived.Deep.RegionHeld
set_option linter.unusedVariables false
set_option linter.unusedSimpArgs false
namespace Go.Proofs.YtefhboojobfchaaGreatDoor

section
variable {P : Program} {ops : Array Oper} {Q : Exit → Act → World → Prop} {md : Region.Mode} {S : World → Prop} {L : Nat}

/-- Whatever order is picked, and S holds behind every operation but number L. -/
def AnyT (P : Program) (md : Region.Mode) (ops : Array Oper) (Q : Exit → Act → World → Prop) (S : World → Prop) (L : Nat) : Nat → Array Bool → Act → World → Prop
  | 0, done, a, w => Region.ready md ops done = [] ∧ Q .normal a w
  | n + 1, done, a, w => (Region.ready md ops done = [] → Q .normal a w) ∧
      ∀ i ∈ Region.ready md ops done, wpOp P ops Q i (fun a' w' => (S w → i ≠ L → S w') ∧ AnyT P md ops Q S L n (done.setIfInBounds i true) a' w') a w

theorem AnyT.any : ∀ (n : Nat) (done : Array Bool) (a : Act) (w : World), AnyT P md ops Q S L n done a w → wpAny P md ops Q n done a w
  | 0, _, _, _, h => h
  | n + 1, _, _, _, h => ⟨h.1, fun i hi => wpOp_mono (fun a' w' hh => AnyT.any n _ a' w' hh.2) (h.2 i hi)⟩

/-- Number i may be taken first: where T holds it yields v, and T holds as long as it has not come up. -/
theorem AnyT.first {T : World → Prop} {i : Nat} {oi : Oper} {v : Value} (hi : ops[i]? = some oi) (hsel : ∀ (j : Nat) (o : Oper) cs b, ops[j]? = some o → o.op ≠ .select cs b)
    (hQ : ∀ c a w, Q (.panic c) (a.put oi.dst v) w → Q (.panic c) a w)
    (hT : ∀ j oj, ops[j]? = some oj → (∀ e ∈ oj.after, Region.binds md e = true → e.on ≠ i) → ∀ w w', T w → (S w → j ≠ L → S w') → T w') :
    ∀ (n : Nat) (done : Array Bool) (a : Act) (w : World),
      (∀ j oj, ops[j]? = some oj → j ≠ i → done.getD j true = false → (∀ e ∈ oj.after, Region.binds md e = true → e.on ≠ i) → oi.apart ops oj = true) →
      i ∈ Region.ready md ops done → YieldsIf P ops T oi v a → T w → AnyT P md ops Q S L n (done.setIfInBounds i true) (a.put oi.dst v) w → AnyT P md ops Q S L (n + 1) done a w := by
  intro n
  induction n with
  | zero =>
    intro done a w _ hr hy ht H
    refine ⟨fun h0 => (by rw [h0] at hr; cases hr), fun j hj => ?_⟩
    rcases Nat.decEq j i with hji | rfl
    · have hm := ready_mono hj hji
      rw [H.1] at hm
      cases hm
    · exact hy.wpOp hi ht ⟨fun h _ => h, H⟩
  | succ n ih =>
    intro done a w hfree hr hy ht H
    refine ⟨fun h0 => (by rw [h0] at hr; cases hr), fun j hj => ?_⟩
    rcases Nat.decEq j i with hji | rfl
    case isTrue => exact hy.wpOp hi ht ⟨fun h _ => h, H⟩
    have h1 := H.2 j (ready_mono hj hji)
    obtain ⟨hun, oj, hoj, hall⟩ := mem_ready.1 hj
    have hr0 := (mem_ready.1 hr).1
    have hno : ∀ e ∈ oj.after, Region.binds md e = true → e.on ≠ i := by
      intro e he hb heq
      have h2 := hall e he hb
      rw [heq] at h2
      rcases Nat.lt_or_ge i done.size with hl | hl
      · simp [hl] at hr0 h2
        rw [hr0] at h2
        cases h2
      · simp [Array.getElem?_eq_none hl] at h2
    have h2 := wpOp_putIf hoj (hfree j oj hoj hji hun hno) (fun cs b => hsel i oi cs b hi) (fun cs b => hsel j oj cs b hoj) hQ hy h1
    refine wpOp_mono (fun a' w' h3 => ⟨h3.2.1, ih (done.setIfInBounds j true) a' w' ?_ (ready_mono hr (Ne.symm hji)) h3.1 (hT j oj hoj hno w w' ht h3.2.1) ?_⟩) h2
    · intro k ok hk hki hku hkn
      refine hfree k ok hk hki ?_ hkn
      rcases Nat.decEq j k with hjk | rfl
      · rw [getD_set_ne true hjk] at hku
        exact hku
      · exact hun
    · rw [Array.setIfInBounds_comm _ _ hji]
      exact h3.2.2

/-- Number L waits for number i, in so many words. -/
def waits (md : Region.Mode) (ops : Array Oper) (L i : Nat) : Bool :=
  match ops[L]? with
  | some o => o.after.any fun e => Region.binds md e && e.on == i
  | none => true

/-- A load is taken first: S gives what it reads. -/
theorem AnyT.takeS {i : Nat} {oi : Oper} {d : Option Tmp} {v : Value} {n : Nat} {done : Array Bool} {a : Act} {w : World} (hi : ops[i]? = some oi) (hd : oi.dst = d)
    (hs : Region.noSelect ops = true) (hf : Region.free md ops done i = true) (hr : (Region.ready md ops done).contains i = true) (hL : waits md ops L i = true)
    (hQ : ∀ c a w, Q (.panic c) (a.put d v) w → Q (.panic c) a w) (hw : Region.wanted oi (yielded ops a.tmps) = true) (hS : S w)
    (hy : ∀ w, S w → (execOp a.eval oi).run P w = .ok (.value v) w)
    (h : AnyT P md ops Q S L n (done.setIfInBounds i true) (a.put d v) w) : AnyT P md ops Q S L (n + 1) done a w := by
  subst hd
  refine AnyT.first (T := S) hi (Region.noSelect_spec hs) hQ (fun j oj hj hno w w' hw hjL => hjL hw ?_) n done a w (Region.free_spec hi hf) (by simpa using hr) (Or.inl ⟨hw, hy⟩) hS h
  rintro rfl
  unfold waits at hL
  rw [hj] at hL
  obtain ⟨e, he, hb⟩ := Array.any_eq_true'.1 hL
  simp only [Bool.and_eq_true, beq_iff_eq] at hb
  exact hno e he hb.1 hb.2

/-- What yields in whatever world is taken first. -/
theorem AnyT.takeY {i : Nat} {oi : Oper} {d : Option Tmp} {v : Value} {n : Nat} {done : Array Bool} {a : Act} {w : World} (hi : ops[i]? = some oi) (hd : oi.dst = d)
    (hs : Region.noSelect ops = true) (hf : Region.free md ops done i = true) (hr : (Region.ready md ops done).contains i = true)
    (hQ : ∀ c a w, Q (.panic c) (a.put d v) w → Q (.panic c) a w) (hw : Region.wanted oi (yielded ops a.tmps) = true)
    (hy : ∀ w, (execOp a.eval oi).run P w = .ok (.value v) w)
    (h : AnyT P md ops Q S L n (done.setIfInBounds i true) (a.put d v) w) : AnyT P md ops Q S L (n + 1) done a w := by
  subst hd
  exact AnyT.first (T := fun _ => True) hi (Region.noSelect_spec hs) hQ (fun _ _ _ _ _ _ _ _ => trivial) n done a w (Region.free_spec hi hf) (by simpa using hr) (Or.inl ⟨hw, fun w _ => hy w⟩) trivial h

/-- What its guard leaves out is taken first. -/
theorem AnyT.takeU {i : Nat} {oi : Oper} {d : Option Tmp} {n : Nat} {done : Array Bool} {a : Act} {w : World} (hi : ops[i]? = some oi) (hd : oi.dst = d)
    (hs : Region.noSelect ops = true) (hf : Region.free md ops done i = true) (hr : (Region.ready md ops done).contains i = true)
    (hQ : ∀ c a w, Q (.panic c) (a.put d undef) w → Q (.panic c) a w) (hw : Region.wanted oi (yielded ops a.tmps) = false)
    (h : AnyT P md ops Q S L n (done.setIfInBounds i true) (a.put d undef) w) : AnyT P md ops Q S L (n + 1) done a w := by
  subst hd
  exact AnyT.first (T := fun _ => True) hi (Region.noSelect_spec hs) hQ (fun _ _ _ _ _ _ _ _ => trivial) n done a w (Region.free_spec hi hf) (by simpa using hr) (Or.inr ⟨hw, rfl⟩) trivial h

/-- One operation alone may come up: it is carried out. -/
theorem AnyT.one {i : Nat} {o : Oper} {n : Nat} {done : Array Bool} {a : Act} {w : World} (ho : ops[i]? = some o) (hr : Region.ready md ops done = [i])
    (h : ∀ K' : Act → World → Prop, Shut (∀ a' w', (S w → i ≠ L → S w') → AnyT P md ops Q S L n (done.setIfInBounds i true) a' w' → K' a' w') → if Region.wanted o (yielded ops a.tmps) = true then Oper.wp P o a w K' Q else K' (a.put o.dst undef) w) :
    AnyT P md ops Q S L (n + 1) done a w := by
  refine ⟨fun h0 => (by rw [hr] at h0; cases h0), fun j hj => ?_⟩
  rw [hr] at hj
  obtain rfl : j = i := by simpa using hj
  exact wpOp_step ho (fun K' hK => h K' (fun a' w' hs ht => hK a' w' ⟨hs, ht⟩))

theorem AnyT.end {done : Array Bool} {a : Act} {w : World} (hr : Region.ready md ops done = []) (h : Q .normal a w) : ∀ n, AnyT P md ops Q S L n done a w
  | 0 => ⟨hr, h⟩
  | _ + 1 => ⟨fun _ => h, by rw [hr]; simp⟩

theorem AnyT.begin {id n : Nat} {a : Act} {w : World} (hm : P.follows .mixedOrders = true) (hn : ops.size = n) (h : AnyT P .any ops Q S L n (Array.replicate n false) a w.drew) : (Code.region id ops true).wp P Q a w := by
  subst hn
  exact wp_region_any hm (AnyT.any _ _ _ _ h)
end
end Go.Proofs.YtefhboojobfchaaGreatDoor
