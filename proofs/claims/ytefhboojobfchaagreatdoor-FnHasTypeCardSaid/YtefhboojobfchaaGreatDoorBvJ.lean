/- What the bulk of a Value's reading bounds: (no program's steps here); for rows without a text. -/
import Derived.Test.YtefhboojobfchaaGreatDoorValJ
import Derived.Test.YtefhboojobfchaaGreatDoorRows
import Derived.Deep.Slices
import Derived.Deep.Fields
import Derived.SliceStrings
set_option linter.unusedVariables false
set_option linter.unusedSimpArgs false
namespace Go.Proofs.YtefhboojobfchaaGreatDoor
open Go.RowKit

/-- How much a Value holds. -/
def keysW : List ByteArray → Nat
  | [] => 0
  | k :: ks => k.size + 1 + keysW ks
mutual
def wt : Dat → Nat
  | .mk _ _ t ks its => 1 + t.size + keysW ks + wtL its
def wtL : List Dat → Nat
  | [] => 0
  | x :: xs => wt x + wtL xs
end
theorem wt_eq (v : Dat) : wt v = 1 + v.text.size + keysW v.keys + wtL v.items := by cases v; rfl

theorem wtL_le {H : Type} : ∀ (xs : List Dat) (ds : List (DataW H)), xs.length = ds.length → (∀ i (h : i < xs.length) (h' : i < ds.length), wt xs[i] ≤ Rows.uptoBulk ds[i]) → wtL xs ≤ Rows.uptoBulkAll ds := by
  intro xs
  induction xs with
  | nil => intro ds _ _; simp [wtL]
  | cons x xs ih =>
    intro ds hl h
    cases ds with
    | nil => simp at hl
    | cons d ds =>
      have h0 := h 0 (by simp) (by simp)
      have h1 := ih ds (by simpa using hl) (fun i hi hi' => by have := h (i + 1) (by simpa using hi) (by simpa using hi'); simpa using this)
      simp only [wtL, Rows.uptoBulkAll]
      simp at h0
      omega

theorem keysW_le {H : Type} : ∀ ss : List ByteArray, keysW ss ≤ Rows.uptoBulkAll (H := H) (Go.ChangeShapes.strs ss) := by
  intro ss
  induction ss with
  | nil => simp [keysW]
  | cons s ss ih =>
    have e : Go.ChangeShapes.strs (H := H) (s :: ss) = .lit (.string s.data.toList) :: Go.ChangeShapes.strs ss := rfl
    rw [e]
    simp only [keysW, Rows.uptoBulkAll, Rows.uptoBulk]
    have : s.data.toList.length = s.size := rfl
    omega

section
variable {H : Type} {enc : TypeId × Value → H} {w : World} {base : Nat} {spare : Nat → Bool} {held : Bool}

theorem addr_bare {w : World} {a : Addr} {v : Value} (h : w.cell? a = some v) : a.spot = none := by
  unfold World.cell? at h
  split at h
  · split at h
    · cases h
    · rename_i hs
      simpa using hs
  · cases h
theorem addr_plus (b o k : Nat) : (⟨b, o, none⟩ : Addr).add k = ⟨b, o + k, none⟩ := by
  unfold Addr.add
  split
  · rename_i h
    subst h
    rfl
  · rfl

theorem cellsOf_val : Tryz.prog.cellsOf 25 = 5 := by kernel_rfl
theorem cellsOf_str : Tryz.prog.cellsOf 9 = 1 := by kernel_rfl
theorem cellsOf_int64 : Tryz.prog.cellsOf 2 = 1 := by kernel_rfl
theorem cellsOf_strs : Tryz.prog.cellsOf 22 = 1 := by kernel_rfl
theorem cellsOf_vals : Tryz.prog.cellsOf 23 = 1 := by kernel_rfl

set_option maxRecDepth 100000 in
/-- What is read as a Value is one, and it holds no more than its reading. -/
theorem val_of : ∀ (fuel : Nat) (cs : List Value) (x : DataW H × List MemPlace), DataW.trod enc Tryz.prog w base spare held fuel 25 cs = some x → ∃ v, VA w v cs ∧ wt v ≤ Rows.uptoBulk x.1 := by
  intro fuel
  induction fuel using Nat.strongRecOn with
  | ind fuel ih =>
    intro cs x h
    obtain ⟨xs, n, hn, rfl, hlen, hxs, hf⟩ := DataW.trod_struct Tryz.underlying25 h
    rw [cellsOf_val] at hlen
    match cs, hlen with
    | [v0, v1, v2, v3, v4], _ =>
    match xs, hxs with
    | [y0, y1, y2, y3, y4], _ =>
    have h0 : DataW.trod enc Tryz.prog w base spare held n 2 (([v0, v1, v2, v3, v4].drop 0).take (Tryz.prog.cellsOf 2)) = [y0, y1, y2, y3, y4][0]? := hf 0 _ rfl
    rw [cellsOf_int64] at h0
    have h1 : DataW.trod enc Tryz.prog w base spare held n 2 (([v0, v1, v2, v3, v4].drop 1).take (Tryz.prog.cellsOf 2)) = [y0, y1, y2, y3, y4][1]? := hf 1 _ rfl
    rw [cellsOf_int64] at h1
    have h2 : DataW.trod enc Tryz.prog w base spare held n 9 (([v0, v1, v2, v3, v4].drop 2).take (Tryz.prog.cellsOf 9)) = [y0, y1, y2, y3, y4][2]? := hf 2 _ rfl
    rw [cellsOf_str] at h2
    have h3 : DataW.trod enc Tryz.prog w base spare held n 22 (([v0, v1, v2, v3, v4].drop 3).take (Tryz.prog.cellsOf 22)) = [y0, y1, y2, y3, y4][3]? := hf 3 _ rfl
    rw [cellsOf_strs] at h3
    have h4 : DataW.trod enc Tryz.prog w base spare held n 23 (([v0, v1, v2, v3, v4].drop 4).take (Tryz.prog.cellsOf 23)) = [y0, y1, y2, y3, y4][4]? := hf 4 _ rfl
    rw [cellsOf_vals] at h4
    simp at h0 h1 h2 h3 h4
    obtain ⟨k, e0, rfl, _⟩ := DataW.trod_int Tryz.underlying2 h0
    obtain ⟨m, e1, rfl, _⟩ := DataW.trod_int Tryz.underlying2 h1
    obtain ⟨t, e2, rfl, ht⟩ := DataW.trod_string Tryz.underlying9 h2
    simp at e0 e1 e2
    subst e0 e1 e2
    have hK : ∃ ka kc ks, v3 = .slice ka ks.length kc ∧ StrsAt w ka ks ∧ ks.length ≤ kc ∧ kc ≤ maxLen ∧ keysW ks ≤ Rows.uptoBulk y3.1 := by
      rcases Go.ChangeShapes.open_strings Tryz.underlying22 Tryz.underlying9 cellsOf_str h3 with ⟨hc, hx⟩ | ⟨a, len, cap, ss, hc, _, hl, hm, hz, hx, hcell, hws⟩
      · simp at hc
        exact ⟨none, 0, [], hc, fun i h => absurd h (Nat.not_lt_zero _), Nat.le_refl _, Nat.zero_le _, by simp [keysW]⟩
      · simp at hc
        have hle : len ≤ ss.length := by rw [hz]; split <;> omega
        have htl : (ss.take len).length = len := by simp; omega
        refine ⟨some a, cap, ss.take len, by rw [hc, htl], fun i hi => ?_, by rw [htl]; exact hl, hm, ?_⟩
        · have hi' : i < ss.length := by rw [htl] at hi; omega
          have hci := hcell i hi'
          have hg : (ss.take len)[i] = ss.getD i ByteArray.empty := by
            rw [List.getElem_take, List.getD_eq_getElem?_getD, List.getElem?_eq_getElem hi']
            rfl
          rw [hg]
          refine ⟨hws _ ?_, ?_⟩
          · rw [List.getD_eq_getElem?_getD, List.getElem?_eq_getElem hi']
            exact List.getElem_mem hi'
          · have h0c := hcell 0 (by omega)
            obtain ⟨b, o, sp⟩ := a
            have hsp := addr_bare h0c
            simp [Addr.add] at hsp
            subst hsp
            exact ⟨b, o, rfl, by rw [← addr_plus]; exact hci⟩
        · rw [hx]
          simp only [Rows.uptoBulk]
          have := keysW_le (H := H) (ss.take len)
          omega
    have hI : ∃ ia ic its, v4 = .slice ia (its : List Dat).length ic ∧ its.length ≤ ic ∧ ic ≤ maxLen ∧ (∃ cf : Nat → List Value, (∀ i, i < its.length → ∃ b o, ia = some ⟨b, o, none⟩ ∧ ∀ j u, (cf i)[j]? = some u → w.cell? ⟨b, o + i * 5 + j, none⟩ = some u) ∧
        ∀ i (h : i < its.length), VA w its[i] (cf i)) ∧ wtL its ≤ Rows.uptoBulk y4.1 := by
      rcases DataW.trod_slice Tryz.underlying23 h4 with ⟨hc, hx⟩ | ⟨a, len, cap, elems, rest, n', hn', hc, hx, _, hl, hm, hel, helt, _, _⟩
      · simp at hc
        exact ⟨none, 0, [], hc, Nat.le_refl _, Nat.zero_le _, ⟨fun _ => [], fun i h => absurd h (Nat.not_lt_zero _), fun i h => absurd h (Nat.not_lt_zero _)⟩, by simp [wtL]⟩
      · simp at hc
        have each : ∀ i, ∃ p : Dat × List Value, ∀ (h : i < len), VA w p.1 p.2 ∧ wt p.1 ≤ Rows.uptoBulk (elems[i]'(by omega)).1 ∧ w.cells? base (a.add (i * 5)) 5 = some p.2 := by
          intro i
          by_cases hi : i < len
          · have h := helt i hi
            rw [cellsOf_val, List.getElem?_eq_getElem (by omega), Option.bind_eq_some_iff] at h
            obtain ⟨cs', hc', ht'⟩ := h
            obtain ⟨v, hv, hw⟩ := ih n' (by omega) cs' _ ht'
            exact ⟨(v, cs'), fun _ => ⟨hv, hw, hc'⟩⟩
          · exact ⟨(.mk 0 0 ByteArray.empty [] [], []), fun h => absurd h hi⟩
        obtain ⟨f, hfx⟩ := Classical.skolem.1 each
        refine ⟨some a, cap, (List.range len).map fun i => (f i).1, by simp [hc], by simpa using hl, hm, ⟨fun i => (f i).2, fun i hi => ?_, fun i hi => ?_⟩, ?_⟩
        · have hi' : i < len := by simpa using hi
          obtain ⟨hv, _, hcs⟩ := hfx i hi'
          obtain ⟨_, _, hat⟩ := World.cells?_some hcs
          have hl5 : (f i).2.length = 5 := by
            obtain ⟨_, _, _, _, e⟩ := hv.shape
            rw [e]; rfl
          have hz0 : ∃ u, w.cell? (a.add 0) = some u := by
            obtain ⟨hv', _, hcs'⟩ := hfx 0 (by omega)
            obtain ⟨_, _, hat'⟩ := World.cells?_some hcs'
            have h5 := hat' 0 (by omega)
            have hl5' : (f 0).2.length = 5 := by
              obtain ⟨_, _, _, _, e⟩ := hv'.shape
              rw [e]; rfl
            rw [List.getElem?_eq_getElem (by omega)] at h5
            exact ⟨_, by simpa [Addr.add] using h5⟩
          obtain ⟨u0, hu0⟩ := hz0
          obtain ⟨b, o, sp⟩ := a
          have hsp := addr_bare hu0
          simp [Addr.add] at hsp
          subst hsp
          refine ⟨b, o, rfl, fun j u hu => ?_⟩
          have hj : j < 5 := by rw [← hl5]; exact (List.getElem?_eq_some_iff.1 hu).1
          have := hat j hj
          rw [addr_plus, addr_plus, hu] at this
          exact this
        · simpa using (hfx i (by simpa using hi)).1
        · rw [hx]
          simp only [Rows.uptoBulk]
          have := wtL_le (H := H) ((List.range len).map fun i => (f i).1) (elems.map (·.1)) (by simp [hel]) (fun i hi hi' => by
            have h := (hfx i (by simpa using hi)).2.1
            simpa using h)
          omega
    obtain ⟨ka, kc, ks, rfl, hk1, hk2, hk3, hk4⟩ := hK
    obtain ⟨ia, ic, its, rfl, hi1, hi2, ⟨cf, hi3, hi4⟩, hi5⟩ := hI
    refine ⟨.mk k m t ks its, VA.mk k m t ks its ka ia kc ic cf ht hk1 hk2 hk3 hi1 hi2 hi3 hi4, ?_⟩
    simp only [wt, List.map_cons, List.map_nil, Rows.uptoBulk, Rows.uptoBulkAll]
    have : t.data.toList.length = t.size := rfl
    omega
end
end Go.Proofs.YtefhboojobfchaaGreatDoor
