/- A store into a map whose size nothing bounds, for every kind of element (no program's steps here). -/
import Derived.Maps.Keyed
import Derived.Maps.Own
import Derived.WalkKit
set_option linter.unusedVariables false
set_option linter.unusedSimpArgs false
namespace Go.Proofs.YtefhboojobfchaaGreatDoor
open Go.RowKit Go.Maps Go.ChangeMaps

/-- Go's own tables for numbers with a point, in blocks below T. -/
def FT (T : Nat) (w : World) : Prop :=
  4 < T ∧ 5 < T ∧ 10 < T ∧ w.cell? ⟨4, 0, none⟩ = some (.bool true) ∧ w.cell? ⟨5, 0, none⟩ = some (.int .u64 52) ∧
    ∃ b o c, b < T ∧ w.cell? ⟨10, 0, none⟩ = some (.slice (some ⟨b, o, none⟩) 23 c) ∧ 23 ≤ c ∧ c ≤ maxLen ∧ ∀ j, j < 23 → ∃ f, w.cell? ⟨b, o + j, none⟩ = some (.float .f64 f)
theorem FT.move {T : Nat} {w w1 : World} (h : FT T w) (hb : ∀ k, k < T → w1.heap[k]? = w.heap[k]?) : FT T w1 := by
  obtain ⟨t1, t2, t3, h1, h2, b, o, c, t4, h3, h4, h5, h6⟩ := h
  have mv : ∀ k o u, k < T → w.cell? ⟨k, o, none⟩ = some u → w1.cell? ⟨k, o, none⟩ = some u := fun k o u hk hc => (World.cell?_of_block (a := ⟨k, o, none⟩) (hb k hk)).trans hc
  exact ⟨t1, t2, t3, mv _ _ _ t1 h1, mv _ _ _ t2 h2, b, o, c, t4, mv _ _ _ t3 h3, h4, h5, fun j hj => let ⟨f, hf⟩ := h6 j hj; ⟨f, mv _ _ _ t4 hf⟩⟩
theorem FT.wide {T T' : Nat} {w : World} (h : FT T w) (ht : T ≤ T') : FT T' w := by
  obtain ⟨t1, t2, t3, h1, h2, b, o, c, t4, h3⟩ := h
  exact ⟨by omega, by omega, by omega, h1, h2, b, o, c, by omega, h3⟩
/-- A map whose keys can be read; Go's own tables lie below it. -/
def MapOk (P : Program) (k : TypeId) (w : World) (m : Nat) : Prop := (∃ es clock, w.heap[m]? = some (.map es clock) ∧ ∀ x ∈ es.toList, ∃ l, keyOf P k x.key = some l) ∧ FT m w

theorem map_put {P : Program} {k e t : TypeId} {w : World} {m : Nat} (K : Keyed P k) (ht : P.underlying t = some (.map k e)) (h : MapOk P k w m) {key val : Value} {kl : Lit} (hkey : keyOf P k key = some kl) :
    ∃ w', (Instr.mapUpdate t (.map (some m)) key val).run P w = .ok () w' ∧ MapOk P k w' m ∧ w.grownBy w' (some m) := by
  obtain ⟨⟨es, clock, hb, hk⟩, hft⟩ := h
  have ft : ∀ o, FT m (setBlock w m o) := fun o => hft.move (fun k hk => heap_setBlock_other hb _ (by omega))
  have grown : ∀ o, w.grownBy (setBlock w m o) (some m) := fun o => ⟨rfl, rfl, rfl, by simp [setBlock], fun i _ hi => heap_setBlock_other hb _ (fun e => hi (by rw [e]))⟩
  rcases K.find w hkey es.toList hk with ⟨h1, h2⟩ | ⟨j, e0, h1, h2, h3⟩
  · refine ⟨setBlock w m (.map (es.push ⟨key, val, clock⟩) (clock + 1)), ?_, ⟨⟨_, _, heap_setBlock_same hb _, fun x hx => ?_⟩, ft _⟩, grown _⟩
    · simp [Instr.mapUpdate, run_underlying ht, MapKept.run_getObj_map hb, K.check w false hkey, h1, MapKept.run_setObj_map _ hb, Result.andThen, setBlock]
    · simp only [Array.toList_push, List.mem_append, List.mem_singleton] at hx
      rcases hx with hx | rfl
      · exact hk x hx
      · exact ⟨_, hkey⟩
  · have hj : es[j]? = some e0 := by simpa using h2
    have hlist : (es.modify j (fun e' => { e' with key := key, val := val })).toList = es.toList.set j { e0 with key := key, val := val } := by rw [Array.toList_modify, modify_eq_set _ _ _ _ h2]
    refine ⟨setBlock w m (.map (es.modify j (fun e' => { e' with key := key, val := val })) clock), ?_, ⟨⟨_, _, heap_setBlock_same hb _, fun x hx => ?_⟩, ft _⟩, grown _⟩
    · simp [Instr.mapUpdate, run_underlying ht, MapKept.run_getObj_map hb, K.check w false hkey, h1, hj, h3, K.stays w hkey, MapKept.run_setObj_map _ hb, Result.andThen, setBlock]
    · rw [hlist] at hx
      obtain ⟨i, hi, ex⟩ := List.getElem_of_mem hx
      rw [List.getElem_set] at ex
      split at ex
      · rw [← ex]
        exact ⟨_, hkey⟩
      · have hi' : i < es.toList.length := by simpa using hi
        rw [← ex]
        exact hk _ (List.getElem_mem hi')

/-- The store in a walk. -/
theorem wpList_mapUpdate_any {P : Program} (w : World) {ops : Array Oper} {rest : List Oper} {o : Oper} {a : Act} {Q : Exit → Act → World → Prop}
    (hg : o.guard = none) (mo x v : Operand) (t : TypeId) (hop : o.op = Op.mapUpdate t mo x v) (k e : TypeId) (K : Keyed P k) (ht : P.underlying t = some (.map k e)) (m : Nat)
    (hm : a.eval mo = .map (some m)) (h : MapOk P k w m) (key : Value) (kl : Lit) (hx : a.eval x = key) (hkey : keyOf P k key = some kl)
    (hK : ∀ w', MapOk P k w' m → w.grownBy w' (some m) → wpList P ops Q rest (a.put o.dst undef) w') :
    wpList P ops Q (o :: rest) a w := by
  refine wpList_plain hg fun K' hK' => ?_
  obtain ⟨w', hrun, r1, r2⟩ := map_put K ht h (val := a.eval v) hkey
  unfold Oper.wp
  simp [execOp, hop, hm, hx, hrun, Result.andThen]
  exact hK' _ _ (hK w' r1 r2)
end Go.Proofs.YtefhboojobfchaaGreatDoor
