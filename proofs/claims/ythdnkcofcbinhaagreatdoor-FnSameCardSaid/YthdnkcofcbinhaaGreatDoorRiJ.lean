/- Keys that rise: which of two is less (no program's steps here). -/
import Derived.Test.YthdnkcofcbinhaaGreatDoorNs4J
import Derived.Test.YthdnkcofcbinhaaGreatDoorSp2J
import Derived.Sort.Walk0
import Derived.Maps.Own
set_option linter.unusedVariables false
set_option linter.unusedSimpArgs false
namespace Go.Proofs.YthdnkcofcbinhaaGreatDoor
open Go.RowKit

theorem less_trans {x y z : List UInt8} (h : Op.bytesLess x y = true) (k : Op.bytesLess y z = true) : Op.bytesLess x z = true := by
  rw [Go.Proofs.bytesLess_eq] at h k ⊢
  simp only [decide_eq_true_eq] at h k ⊢
  exact List.lt_trans h k
theorem less_irrefl (x : List UInt8) : Op.bytesLess x x = false := by
  rw [Go.Proofs.bytesLess_eq]
  simp only [decide_eq_false_iff_not]
  exact List.lt_irrefl x

theorem keys_rise {v : Dat} (h : KeysTo v v.keys.length) (f : Nat → ByteArray) (hf : ∀ a (ha : a < v.keys.length), f a = v.keys[a]) : ∀ a b, a < v.keys.length → b < v.keys.length → Op.bytesLess (f a).toList (f b).toList = decide (a < b) := by
  have up : ∀ d a, a + d + 1 < v.keys.length → Op.bytesLess (f a).toList (f (a + d + 1)).toList = true := by
    intro d
    induction d with
    | zero =>
      intro a ha
      have := (h (a + 1) (by omega) (by omega)).2 (by omega)
      rw [hf a (by omega), hf (a + 0 + 1) (by omega)]
      simpa using this
    | succ d ih =>
      intro a ha
      have h1 := ih a (by omega)
      have h2 := (h (a + d + 1 + 1) (by omega) (by omega)).2 (by omega)
      rw [hf (a + d + 1) (by omega)] at h1
      rw [hf (a + (d + 1) + 1) (by omega)]
      exact less_trans h1 h2
  intro a b ha hb
  rcases Nat.lt_trichotomy a b with hab | rfl | hab
  · rw [decide_eq_true hab]
    have := up (b - a - 1) a (by omega)
    rwa [show a + (b - a - 1) + 1 = b by omega] at this
  · rw [less_irrefl]
    simp
  · rw [decide_eq_false (by omega)]
    have := up (a - b - 1) b (by omega)
    rw [show b + (a - b - 1) + 1 = a by omega] at this
    cases hq : Op.bytesLess (f a).toList (f b).toList
    · rfl
    · have := less_trans this hq
      rw [less_irrefl] at this
      cases this
end Go.Proofs.YthdnkcofcbinhaaGreatDoor

/- NewSchemaFromObject. -/
namespace Go.Proofs.YthdnkcofcbinhaaGreatDoor
open Go.RowKit Go.Maps

/-- The making of a schema, under a name of its own (the walk would lay the 37 fields open). -/
noncomputable def buildS (args : Array (Nat × Value)) : Sem Value := Instr.build 69 args
theorem build_is (args : Array (Nat × Value)) : Instr.build 69 args = buildS args := rfl
theorem build_schema (m : Nat) : ∃ cs : Array Value, (∀ w : World, (buildS #[(0, .map (some m))]).run Tryz.prog w = .ok (.agg cs) w) ∧ cs.size = 37 ∧ cs[0]? = some (.map (some m)) ∧ ∀ i, 0 < i → i < 37 → cs[i]? = some (.pointer none) := by
  refine ⟨(Value.map (some m) :: List.replicate 36 (.pointer none)).toArray, fun w => by kernel_rfl, by simp, by simp, fun i h0 h1 => ?_⟩
  obtain ⟨k, rfl⟩ : ∃ k, i = k + 1 := ⟨i - 1, by omega⟩
  have hk : k < 36 := by omega
  simp [-List.reduceReplicate, hk]

theorem NInv.start {w : World} {B m D : Nat} {v : Dat} {cs : Array Value} (hm : MapOk Tryz.prog 9 w m) (h1 : cs.size = 37) (h2 : cs[0]? = some (.map (some m))) (h3 : ∀ i, 0 < i → i < 37 → cs[i]? = some (.pointer none)) :
    NInv w B m D v 0 (w.alloc (.cells cs 69)) :=
  ⟨⟨cs, blk_new w _, h1, h2, h3 4 (by omega) (by omega), h3 5 (by omega) (by omega), fun y hy hp => ⟨_, h3 _ hp (kws_lt y hy).1, .inr ⟨fun _ _ hj => absurd hj (Nat.not_lt_zero _), rfl⟩⟩⟩,
    grown_below _ (up_alloc (Below.refl _ _) _), hm.up (up_alloc (Below.refl _ _) _), by simp⟩

/-- All keys are read: the schema. -/
theorem NInv.sch {w wr w1 : World} {B m D : Nat} {v : Dat} (I : NInv w B m D v v.items.length wr) (hB : B ≤ w.heap.size) (hmB : m < B) (hk : v.kind = 5) (hkl : v.keys.length = v.items.length) (hg : wr.grownBy w1 (some m)) :
    Sch (SN B m w.heap.size w1.heap.size) w1 (D + 1) v w.heap.size := by
  obtain ⟨cs, h1, h2, h3, h4, h5, h6⟩ := I.cells
  have hz := I.size
  have hz1 := hg.size
  have mv : ∀ k, (k < B ∧ k ≠ m) ∨ (w.heap.size < k ∧ k < wr.heap.size) → w1.heap[k]? = wr.heap[k]? := fun k hk => hg.block k (by omega) (by simp; omega)
  have up : ∀ k, (k < B ∧ k ≠ m) ∨ (w.heap.size < k ∧ k < wr.heap.size) → SN B m w.heap.size w1.heap.size k := fun k hk => hk.imp id (fun h => ⟨by omega, by omega⟩)
  refine ⟨.inr ⟨Nat.le_refl _, by omega⟩, hk, cs, (hg.block _ (by omega) (by simp; omega)).trans h1, h2, h4, h5, fun x hx hp => ?_⟩
  obtain ⟨f, hf, h⟩ := h6 x hx hp
  refine ⟨f, hf, ?_⟩
  rcases h with ⟨j, hj, hj', -, hkey, hok⟩ | ⟨h, hn⟩
  · exact .inl ⟨j, hj, hj', hkey, FieldOk.move mv up (fun z k hk => Sch.move mv up _ _ _ hk) hok⟩
  · exact .inr ⟨fun j hj => h j hj (by omega), hn⟩

theorem nso_looped (B m n E c : Nat) (A : Option Addr) (v : Dat) (w : World) (hB : B ≤ w.heap.size) (hmB : m < B) (ih : ∀ D, D < E + 1 → ReadsSchema B m D) (hp : Plain (E + 1) v) (hsh : IsShp v) (O : Obj5 B m (E + 1) n v w A c) (Q0 : Exit → Act → World → Prop) (a : Act)
    (ha : FrameAt n m w.heap.size 0 a) (wr : World) (h0 : NInv w B m (E + 1) v 0 wr)
    (hexit : ∀ a wr, FrameAt n m w.heap.size ((2 * v.items.length : Nat) : Int) a → NInv w B m (E + 1) v v.items.length wr → Q0 (.exit 1) a wr) :
    (Code.loop nsoBody).wp Tryz.prog Q0 a wr := by
  obtain ⟨u, hu⟩ : ∃ u, a = lit n m w.heap.size 0 u := ⟨_, ha⟩
  rw [hu]
  exact nso_loop B m n E c A v w hB hmB ih hp hsh O Q0 hexit u wr h0

theorem key_string {P : Program} {k : TypeId} (hk : P.underlying k = some .string) {s : ByteArray} (h : s.size ≤ maxLen) : keyOf P k (.string s) = some (.string s.data.toList) := by simp [keyOf, mapKey, hk, h]

theorem Plain.text {D : Nat} {x : Dat} (h : Plain D x) : x.text.size ≤ 200 := by
  have none : NoText x → x.text.size ≤ 200 := fun h => by rw [h]; decide
  have flat : Flat x → x.text.size ≤ 200 := by
    rintro (h' | h' | h' | h' | h')
    · exact none h'.2.2.1
    · exact none h'.2.2.1
    · exact none h'.2.2.2.1
    · exact none h'.2.2.2.2.1
    · exact h'.2.2.1.2
  cases D with
  | zero => exact flat h
  | succ D =>
    rcases h with h | h | h
    · exact flat h
    · exact none h.2.2.1
    · exact none h.2.2.1

attribute [local go_sem ↓] build_is
set_option maxRecDepth 1000000 in
set_option maxHeartbeats 8000000 in
theorem nso_step (B m n E : Nat) (v : Dat) (w : World) (hB : B ≤ w.heap.size) (hmB : m < B) (ih : ∀ D, D < E + 1 → ReadsSchema B m D) (hp : Plain (E + 1) v) (hsh : IsShp v)
    (hN : NodeOf (SB B m) w (E + 2) v n) (hm : MapOk Tryz.prog 9 w m) :
    Calls Tryz.prog 26 #[.pointer (some ⟨n, 0, none⟩), .map (some m)] w (GivesSch B m (E + 2) v w) := by
  obtain ⟨A, c, hO⟩ := Obj5.of hN hsh.kind
  have HO := Lib.hid hO
  have HM := Lib.hid hm
  have HIH := Lib.hid ih
  have HP := Lib.hid hp
  have HSH := Lib.hid hsh
  have HB := Lib.hid hB
  have HMB := Lib.hid hmB
  have n0 : w.cell? ⟨n, 0, none⟩ = some (.int .u32 4) := (blk_cell hO.hh 0).trans rfl
  obtain ⟨cs0, hbd, hc1, hc2, hc3⟩ := build_schema m
  have HC := Lib.hid hc3
  have HC1 := Lib.hid hc1
  have HC2 := Lib.hid hc2
  clear hc1 hc2 hc3
  have hnil := fun w : World => run_eql_map_nil (P := Tryz.prog) w 47 9 35 (some m) Tryz.underlying47
  clear hO hm ih hp hsh hN hB hmB
  go_enter Tryz.func26, Tryz.ntmps26
  go_wp2
  refine nso_looped B m n E c A v w HB.out HMB.out HIH.out HP.out HSH.out HO.out _ _ (by unfold FrameAt; kernel_rfl) _ (NInv.start HM.out HC1.out HC2.out HC.out) ?_
  intro a wr ha I
  rename_i K1 h1 K0 h0
  obtain ⟨u, rfl⟩ : ∃ u, a = lit n m w.heap.size ((2 * v.items.length : Nat) : Int) u := ⟨_, ha⟩
  clear hbd ha n0
  have HI := Lib.hid I
  clear I
  dsimp only [lit]
  simp only [Exit.inBlock, Exit.then, if_true]
  refine h0 _ _ ?_
  clear h0 K0
  obtain ⟨cs, hcs, -, -, -, -, hf⟩ := HI.out.cells
  obtain ⟨f2, hf2, hid⟩ := hf (kId, 1, 2) (by unfold kws; simp) (by decide)
  have p2 : wr.cell? ⟨w.heap.size, 2, none⟩ = some f2 := (blk_cell hcs 2).trans hf2
  clear hcs hf2 hf
  rcases hid with ⟨j, hj, hj', -, -, hok⟩ | ⟨-, rfl⟩
  · obtain ⟨b, o, rfl, -, hc⟩ := (show PtrTo _ _ _ _ from hok)
    obtain ⟨E', -, hpE⟩ := HP.out.item hj'
    have HKEY := Lib.hid (key_string (P := Tryz.prog) Tryz.underlying9 (show v.items[j].text.size ≤ maxLen by have := hpE.text; unfold maxLen; omega))
    generalize v.items[j].text = key at hc HKEY
    clear hok hpE hj hj'
    go_wp2_with (first
      | (at_mapUpdate
         refine wpList_mapUpdate_any _ rfl (.tmp 341) (.tmp 347) (.tmp 348) 47 rfl 9 35 (string_keyed Tryz.underlying9) Tryz.underlying47 m rfl HI.out.map (.string key) _ rfl HKEY.out ?_))
    intro w1 hm1 hg1
    have HM1 := Lib.hid hm1
    have HG1 := Lib.hid hg1
    clear hm1 hg1 p2 hc
    go_wp2
    go_ret
    exact ⟨_, rfl, HI.out.sch HB.out HMB.out HSH.out.kind HO.out.hkl HG1.out, grown_trans HI.out.grown HG1.out, HM1.out⟩
  · go_wp2
    go_ret
    exact ⟨_, rfl, HI.out.sch HB.out HMB.out HSH.out.kind HO.out.hkl (grown_refl _ _), HI.out.grown, HI.out.map⟩

theorem reads_all (B m : Nat) (hmB : m < B) : ∀ D, ReadsSchema B m D := by
  intro D
  induction D using Nat.strongRecOn with
  | _ D ih =>
    cases D with
    | zero =>
      intro x n w hB hm hN hp hsh
      exfalso
      have hk := hsh.kind
      rcases hp with h | h | h | h | h <;> · have := h.1; omega
    | succ E =>
      intro x n w hB hm hN hp hsh
      exact nso_step B m n E x w hB hmB ih hp hsh hN hm
end Go.Proofs.YthdnkcofcbinhaaGreatDoor
