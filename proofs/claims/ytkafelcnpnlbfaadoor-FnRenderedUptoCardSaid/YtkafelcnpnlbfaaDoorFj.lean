/- FromJSON: the whole text. -/
import Derived.Test.YtkafelcnpnlbfaaDoorRd7
namespace Go.Proofs.YtkafelcnpnlbfaaDoor
open Go.RowKit

theorem blk_new2 (w : World) (o1 o2 : Obj) : ((w.alloc o1).alloc o2).heap[w.heap.size + 1]? = some o2 := by
  have h := blk_new (w.alloc o1) o2
  have e : (w.alloc o1).heap.size = w.heap.size + 1 := by simp
  rwa [e] at h

/-- What FromJSON gives. -/
def GivesPair (v : Dat) (w : World) (e : Ending) (w' : World) : Prop := ∃ cs, e = .returned (.tuple #[.agg cs.toArray, .bool true]) ∧ VA w' v cs ∧ Below w.heap.size w w'

set_option maxRecDepth 100000 in
set_option maxHeartbeats 1000000 in
theorem FromJSON_any (v : Dat) (s : ByteArray) (w : World) (hk : v.kind = 4 ∨ v.kind = 5) (hp : Plain 12 v) (hq : Prn v) (hs : bs s = tx 13 [] v ++ [10]) (hlen : s.size ≤ 9223372036854775807) :
    Calls Tryd.prog 6 #[.string s] w (GivesPair v w) := by
  have HV := Lib.hid (fun (W : World) (g : Nat) (h : W.heap[g]? = some (.cells #[.string s, .int .i64 0, .bool false] 34 (0, 0))) =>
    reads_all 12 v g s [] [] [10] W 40 hp hq (by omega) (by omega) (fun _ h => by cases h) (fun _ h => by cases h) ⟨0, by rw [List.nil_append, ← hs, bs_len]; omega, by rw [List.drop_zero, hs]; rfl, h, hlen⟩)
  clear hp hq hs hk
  go_enter Tryd.func6, Tryd.ntmps6
  go_wp2_with fail
  go_at_call 12
  refine (HV.out _ _ (blk_new2 w _ _)).mono ?_
  rintro e w2 ⟨cs, rfl, hv2, hr2, hg2⟩
  obtain ⟨ka, ia, kc, ic, rfl⟩ := hv2.shape
  have HG2 : Hid (w.heap.size + 2 ≤ w2.heap.size ∧ Below w.heap.size w w2 ∧ w2.heap[w.heap.size]? = some (.cells #[.int .i64 0, .int .i64 0, .string ⟨#[]⟩, .slice none 0 0, .slice none 0 0] 25 (0, 0))) := Lib.hid (by
    have hz := hg2.size
    have ez : ∀ o1 o2, ((w.alloc o1).alloc o2).heap.size = w.heap.size + 2 := fun o1 o2 => by simp
    rw [ez] at hz
    refine ⟨hz, ⟨hg2.os, hg2.tape, hg2.output, by omega, fun k hk => ?_⟩, ?_⟩
    · rw [hg2.block k (by rw [ez]; omega) (by simp; omega)]
      exact (up_alloc (up_alloc (Below.refl w.heap.size w) _) _).block k hk
    · rw [hg2.block w.heap.size (by rw [ez]; omega) (by simp)]
      exact blk_up (blk_new w _) (up_alloc (Below.refl _ _) _))
  have HV2 : Hid (∀ W : World, (∀ k, w.heap.size + 2 ≤ k → k < w2.heap.size → W.heap[k]? = w2.heap[k]?) → VA W v [.int .i64 v.kind, .int .i64 v.num, .string v.text, .slice ka v.keys.length kc, .slice ia v.items.length ic]) := Lib.hid (fun W hW => hv2.mono (fun a u h => by
    obtain ⟨⟨h1, h2⟩, h3⟩ := onS_out h
    refine (World.cell?_of_block (a := a) (hW _ ?_ h2)).trans h3
    have ez : ∀ o1 o2, ((w.alloc o1).alloc o2).heap.size = w.heap.size + 2 := fun o1 o2 => by simp
    rw [ez] at h1
    exact h1))
  have HB := Lib.hid (fun (W : World) (hb : Below w2.heap.size w2 W) => blanks_any (w.heap.size + 1) s [10] [] W (fun c hc => by simp at hc; subst hc; decide) (fun c hc => by simp at hc) (hr2.up hb))
  have hzw : w.heap.size + 1 < w2.heap.size := by have := HG2.out.1; omega
  clear hv2 hr2 hg2
  go_wp2_with fail
  go_at_call 13
  refine (HB.out _ (up_alloc (Below.refl _ _) _)).mono ?_
  rintro e w3 ⟨rfl, hr3, hg3⟩
  obtain ⟨p, hp1, _, hat, _⟩ := hr3
  obtain rfl : p = s.size := by simpa using hp1
  have H3 : Hid (w3.heap[w2.heap.size]? = some (.cells #[.int .i64 v.kind, .int .i64 v.num, .string v.text, .slice ka v.keys.length kc, .slice ia v.items.length ic] 25 (0, 0)) ∧ Below w.heap.size w w3 ∧ w3.heap[w.heap.size]? = some (.cells #[.int .i64 0, .int .i64 0, .string ⟨#[]⟩, .slice none 0 0, .slice none 0 0] 25 (0, 0)) ∧
      w2.heap.size + 1 ≤ w3.heap.size ∧ ∀ k, k < w2.heap.size → k ≠ w.heap.size + 1 → w3.heap[k]? = w2.heap[k]?) := Lib.hid (by
    have hz := hg3.size
    have ez : ∀ o1, (w2.alloc o1).heap.size = w2.heap.size + 1 := fun o1 => by simp
    rw [ez] at hz
    obtain ⟨hz2, hb2, hr2⟩ := HG2.out
    have old : ∀ k, k < w2.heap.size → k ≠ w.heap.size + 1 → w3.heap[k]? = w2.heap[k]? := fun k h1 h2 => by
      rw [hg3.block k (by rw [ez]; omega) (by simp; exact h2)]
      exact Below.heap_alloc _ _ _ h1
    refine ⟨(hg3.block _ (by simp) (by simp; omega)).trans (blk_new w2 _), ⟨hg3.os.trans hb2.os, hg3.tape.trans hb2.tape, hg3.output.trans hb2.output, by omega, fun k hk => ?_⟩, ?_, hz, old⟩
    · rw [old k (by omega) (by omega)]
      exact hb2.block k hk
    · rw [old _ (by omega) (by omega)]
      exact hr2)
  have HAT := Lib.hid hat
  clear hp1 hat hg3
  go_wp2
  refine AnyT.begin (L := 99) (n := 17) (S := fun w' =>
    w'.cell? ⟨w2.heap.size, 0, none⟩ = some (.int .i64 v.kind) ∧ w'.cell? ⟨w2.heap.size, 1, none⟩ = some (.int .i64 v.num) ∧ w'.cell? ⟨w2.heap.size, 2, none⟩ = some (.string v.text) ∧ w'.cell? ⟨w2.heap.size, 3, none⟩ = some (.slice ka v.keys.length kc) ∧ w'.cell? ⟨w2.heap.size, 4, none⟩ = some (.slice ia v.items.length ic) ∧
      w'.cell? ⟨w.heap.size + 1, 1, none⟩ = some (.int .i64 s.size) ∧ w'.cell? ⟨w.heap.size + 1, 2, none⟩ = some (.bool false)
    ) (by kernel_rfl) rfl ?_
  have S0 :
    w3.drew.cell? ⟨w2.heap.size, 0, none⟩ = some (.int .i64 v.kind) ∧ w3.drew.cell? ⟨w2.heap.size, 1, none⟩ = some (.int .i64 v.num) ∧ w3.drew.cell? ⟨w2.heap.size, 2, none⟩ = some (.string v.text) ∧ w3.drew.cell? ⟨w2.heap.size, 3, none⟩ = some (.slice ka v.keys.length kc) ∧ w3.drew.cell? ⟨w2.heap.size, 4, none⟩ = some (.slice ia v.items.length ic) ∧
      w3.drew.cell? ⟨w.heap.size + 1, 1, none⟩ = some (.int .i64 s.size) ∧ w3.drew.cell? ⟨w.heap.size + 1, 2, none⟩ = some (.bool false)
    := ⟨(blk_cell H3.out.1 0).trans rfl, (blk_cell H3.out.1 1).trans rfl, (blk_cell H3.out.1 2).trans rfl, (blk_cell H3.out.1 3).trans rfl, (blk_cell H3.out.1 4).trans rfl, (blk_cell HAT.out 1).trans rfl, (blk_cell HAT.out 2).trans rfl⟩
  have H4 : Hid (w3.drew.heap[w.heap.size]? = some (.cells #[.int .i64 0, .int .i64 0, .string ⟨#[]⟩, .slice none 0 0, .slice none 0 0] 25 (0, 0)) ∧ Below w.heap.size w w3.drew ∧ w2.heap.size + 1 ≤ w3.drew.heap.size ∧ ∀ k, k < w2.heap.size → k ≠ w.heap.size + 1 → w3.drew.heap[k]? = w2.heap[k]?) := Lib.hid ⟨H3.out.2.2.1, up_drew H3.out.2.1, H3.out.2.2.2⟩
  clear H3 HAT
  generalize w3.drew = w4 at S0 H4 ⊢
  refine AnyT.takeS (i := 0) (d := some 13) (v := ?_) rfl rfl (by kernel_rfl) (by kernel_rfl) (by kernel_rfl) (by kernel_rfl) (fun _ _ _ h => h) (by rfl) (by assumption) ?_ ?_
  rotate_left
  · intro W hSw
    try dsimp only at hSw
    go_simp
    with_reducible rfl
  try simp only [Act.put, List.setIfInBounds_toArray, List.set_cons_zero, List.set_cons_succ]
  refine AnyT.takeY (i := 1) (d := some 14) (v := ?_) rfl rfl (by kernel_rfl) (by kernel_rfl) (by kernel_rfl) (fun _ _ _ h => h) (by rfl) ?_ ?_
  rotate_left
  · intro W
    go_simp
    with_reducible rfl
  try simp only [Act.put, List.setIfInBounds_toArray, List.set_cons_zero, List.set_cons_succ]
  refine AnyT.takeY (i := 2) (d := some 15) (v := ?_) rfl rfl (by kernel_rfl) (by kernel_rfl) (by kernel_rfl) (fun _ _ _ h => h) (by rfl) ?_ ?_
  rotate_left
  · intro W
    go_simp
    with_reducible rfl
  try simp only [Act.put, List.setIfInBounds_toArray, List.set_cons_zero, List.set_cons_succ]
  refine AnyT.takeY (i := 3) (d := some 16) (v := ?_) rfl rfl (by kernel_rfl) (by kernel_rfl) (by kernel_rfl) (fun _ _ _ h => h) (by rfl) ?_ ?_
  rotate_left
  · intro W
    go_simp
    with_reducible rfl
  try simp only [Act.put, List.setIfInBounds_toArray, List.set_cons_zero, List.set_cons_succ]
  refine AnyT.takeS (i := 4) (d := some 17) (v := ?_) rfl rfl (by kernel_rfl) (by kernel_rfl) (by kernel_rfl) (by kernel_rfl) (fun _ _ _ h => h) (by rfl) (by assumption) ?_ ?_
  rotate_left
  · intro W hSw
    try dsimp only at hSw
    go_simp
    with_reducible rfl
  try simp only [Act.put, List.setIfInBounds_toArray, List.set_cons_zero, List.set_cons_succ]
  refine AnyT.takeY (i := 5) (d := some 18) (v := ?_) rfl rfl (by kernel_rfl) (by kernel_rfl) (by kernel_rfl) (fun _ _ _ h => h) (by rfl) ?_ ?_
  rotate_left
  · intro W
    go_simp
    with_reducible rfl
  try simp only [Act.put, List.setIfInBounds_toArray, List.set_cons_zero, List.set_cons_succ]
  refine AnyT.takeY (i := 6) (d := some 19) (v := ?_) rfl rfl (by kernel_rfl) (by kernel_rfl) (by kernel_rfl) (fun _ _ _ h => h) (by rfl) ?_ ?_
  rotate_left
  · intro W
    go_simp
    with_reducible rfl
  try simp only [Act.put, List.setIfInBounds_toArray, List.set_cons_zero, List.set_cons_succ]
  refine AnyT.takeY (i := 7) (d := some 20) (v := ?_) rfl rfl (by kernel_rfl) (by kernel_rfl) (by kernel_rfl) (fun _ _ _ h => h) (by rfl) ?_ ?_
  rotate_left
  · intro W
    go_simp
    with_reducible rfl
  try simp only [Act.put, List.setIfInBounds_toArray, List.set_cons_zero, List.set_cons_succ]
  refine AnyT.takeY (i := 8) (d := some 21) (v := ?_) rfl rfl (by kernel_rfl) (by kernel_rfl) (by kernel_rfl) (fun _ _ _ h => h) (by rfl) ?_ ?_
  rotate_left
  · intro W
    go_simp
    with_reducible rfl
  try simp only [Act.put, List.setIfInBounds_toArray, List.set_cons_zero, List.set_cons_succ]
  refine AnyT.takeY (i := 9) (d := some 22) (v := ?_) rfl rfl (by kernel_rfl) (by kernel_rfl) (by kernel_rfl) (fun _ _ _ h => h) (by rfl) ?_ ?_
  rotate_left
  · intro W
    go_simp
    with_reducible rfl
  try simp only [Act.put, List.setIfInBounds_toArray, List.set_cons_zero, List.set_cons_succ]
  refine AnyT.takeS (i := 10) (d := some 23) (v := ?_) rfl rfl (by kernel_rfl) (by kernel_rfl) (by kernel_rfl) (by kernel_rfl) (fun _ _ _ h => h) (by rfl) (by assumption) ?_ ?_
  rotate_left
  · intro W hSw
    try dsimp only at hSw
    go_simp
    with_reducible rfl
  try simp only [Act.put, List.setIfInBounds_toArray, List.set_cons_zero, List.set_cons_succ]
  refine AnyT.takeY (i := 11) (d := some 24) (v := ?_) rfl rfl (by kernel_rfl) (by kernel_rfl) (by kernel_rfl) (fun _ _ _ h => h) (by rfl) ?_ ?_
  rotate_left
  · intro W
    go_simp
    with_reducible rfl
  try simp only [Act.put, List.setIfInBounds_toArray, List.set_cons_zero, List.set_cons_succ]
  refine AnyT.takeY (i := 12) (d := some 25) (v := ?_) rfl rfl (by kernel_rfl) (by kernel_rfl) (by kernel_rfl) (fun _ _ _ h => h) (by rfl) ?_ ?_
  rotate_left
  · intro W
    go_simp
    with_reducible rfl
  try simp only [Act.put, List.setIfInBounds_toArray, List.set_cons_zero, List.set_cons_succ]
  refine AnyT.takeY (i := 13) (d := some 26) (v := ?_) rfl rfl (by kernel_rfl) (by kernel_rfl) (by kernel_rfl) (fun _ _ _ h => h) (by rfl) ?_ ?_
  rotate_left
  · intro W
    go_simp
    with_reducible rfl
  try simp only [Act.put, List.setIfInBounds_toArray, List.set_cons_zero, List.set_cons_succ]
  refine AnyT.takeY (i := 14) (d := some 27) (v := ?_) rfl rfl (by kernel_rfl) (by kernel_rfl) (by kernel_rfl) (fun _ _ _ h => h) (by rfl) ?_ ?_
  rotate_left
  · intro W
    go_simp
    with_reducible rfl
  try simp only [Act.put, List.setIfInBounds_toArray, List.set_cons_zero, List.set_cons_succ]
  have q0 : w4.cell? ⟨w.heap.size, 0, none⟩ = some (.int .i64 0) := (blk_cell H4.out.1 0).trans rfl
  have q1 : w4.cell? ⟨w.heap.size, 1, none⟩ = some (.int .i64 0) := (blk_cell H4.out.1 1).trans rfl
  have q2 : w4.cell? ⟨w.heap.size, 2, none⟩ = some (.string ⟨#[]⟩) := (blk_cell H4.out.1 2).trans rfl
  have q3 : w4.cell? ⟨w.heap.size, 3, none⟩ = some (.slice none 0 0) := (blk_cell H4.out.1 3).trans rfl
  have q4 : w4.cell? ⟨w.heap.size, 4, none⟩ = some (.slice none 0 0) := (blk_cell H4.out.1 4).trans rfl
  have p0 : w4.frozen? ⟨w.heap.size, 0, none⟩ = false := blk_frozen H4.out.1 0
  have p1 : w4.frozen? ⟨w.heap.size, 1, none⟩ = false := blk_frozen H4.out.1 1
  have p2 : w4.frozen? ⟨w.heap.size, 2, none⟩ = false := blk_frozen H4.out.1 2
  have p3 : w4.frozen? ⟨w.heap.size, 3, none⟩ = false := blk_frozen H4.out.1 3
  have p4 : w4.frozen? ⟨w.heap.size, 4, none⟩ = false := blk_frozen H4.out.1 4
  refine AnyT.one (i := 15) rfl (by kernel_rfl) (fun K' hK => ?_)
  go_simp
  have hup : ∀ (a0 a1 a2 a3 a4 : Value), Below w4.heap.size w4 w4 := fun _ _ _ _ _ => Below.refl _ _
  have F5 : Hid (∀ W, W = ((((w4.setCell ⟨w.heap.size, 0, none⟩ (.int .i64 v.kind)).setCell ⟨w.heap.size, 1, none⟩ (.int .i64 v.num)).setCell ⟨w.heap.size, 2, none⟩ (.string v.text)).setCell ⟨w.heap.size, 3, none⟩ (.slice ka v.keys.length kc)).setCell ⟨w.heap.size, 4, none⟩ (.slice ia v.items.length ic) →
      W.heap[w.heap.size]? = some (.cells #[.int .i64 v.kind, .int .i64 v.num, .string v.text, .slice ka v.keys.length kc, .slice ia v.items.length ic] 25 (0, 0)) ∧ Below w.heap.size w W ∧ (∀ k, k ≠ w.heap.size → W.heap[k]? = w4.heap[k]?)) := Lib.hid (fun W hW => by
    subst hW
    exact ⟨set5 H4.out.1 _ _ _ _ _, H4.out.2.1.trans (set5_below (Nat.le_refl _) _ _ _ _ _), fun k hk => set5_far hk _ _ _ _ _⟩)
  have S5 : Hid (∀ W : World, (∀ k, k ≠ w.heap.size → W.heap[k]? = w4.heap[k]?) →
    W.cell? ⟨w2.heap.size, 0, none⟩ = some (.int .i64 v.kind) ∧ W.cell? ⟨w2.heap.size, 1, none⟩ = some (.int .i64 v.num) ∧ W.cell? ⟨w2.heap.size, 2, none⟩ = some (.string v.text) ∧ W.cell? ⟨w2.heap.size, 3, none⟩ = some (.slice ka v.keys.length kc) ∧ W.cell? ⟨w2.heap.size, 4, none⟩ = some (.slice ia v.items.length ic) ∧
      W.cell? ⟨w.heap.size + 1, 1, none⟩ = some (.int .i64 s.size) ∧ W.cell? ⟨w.heap.size + 1, 2, none⟩ = some (.bool false)
    ) := Lib.hid (fun W h => by
      obtain ⟨s0, s1, s2, s3, s4, s5, s6⟩ := S0
      have far : ∀ a u, a.block ≠ w.heap.size → w4.cell? a = some u → W.cell? a = some u := fun a u ha hc => (World.cell?_of_block (a := a) (h _ ha)).trans hc
      exact ⟨far _ _ (by show w2.heap.size ≠ _; omega) s0, far _ _ (by show w2.heap.size ≠ _; omega) s1, far _ _ (by show w2.heap.size ≠ _; omega) s2, far _ _ (by show w2.heap.size ≠ _; omega) s3, far _ _ (by show w2.heap.size ≠ _; omega) s4,
        far _ _ (by show w.heap.size + 1 ≠ _; omega) s5, far _ _ (by show w.heap.size + 1 ≠ _; omega) s6⟩)
  refine hK.out _ _ (fun _ _ => S5.out _ (F5.out _ rfl).2.2) ?_
  clear hK K' hup
  have F6 := Lib.hid (F5.out _ rfl)
  clear S0 q0 q1 q2 q3 q4 p0 p1 p2 p3 p4 F5 S5
  revert F6
  generalize ((((w4.setCell ⟨w.heap.size, 0, none⟩ (.int .i64 v.kind)).setCell ⟨w.heap.size, 1, none⟩ (.int .i64 v.num)).setCell ⟨w.heap.size, 2, none⟩ (.string v.text)).setCell ⟨w.heap.size, 3, none⟩ (.slice ka v.keys.length kc)).setCell ⟨w.heap.size, 4, none⟩ (.slice ia v.items.length ic) = w5
  intro F6
  refine AnyT.takeY (i := 16) (d := some 3) (v := ?_) rfl rfl (by kernel_rfl) (by kernel_rfl) (by kernel_rfl) (fun _ _ _ h => h) (by rfl) ?_ ?_
  rotate_left
  · intro W
    go_simp
    with_reducible rfl
  try simp only [Act.put, List.setIfInBounds_toArray, List.set_cons_zero, List.set_cons_succ]
  refine AnyT.end (by kernel_rfl) ?_ _
  try simp only [Act.put, List.setIfInBounds_toArray, List.set_cons_zero, List.set_cons_succ]
  have q0 : w5.cell? ⟨w.heap.size, 0, none⟩ = some (.int .i64 v.kind) := (blk_cell F6.out.1 0).trans rfl
  have q1 : w5.cell? ⟨w.heap.size, 1, none⟩ = some (.int .i64 v.num) := (blk_cell F6.out.1 1).trans rfl
  have q2 : w5.cell? ⟨w.heap.size, 2, none⟩ = some (.string v.text) := (blk_cell F6.out.1 2).trans rfl
  have q3 : w5.cell? ⟨w.heap.size, 3, none⟩ = some (.slice ka v.keys.length kc) := (blk_cell F6.out.1 3).trans rfl
  have q4 : w5.cell? ⟨w.heap.size, 4, none⟩ = some (.slice ia v.items.length ic) := (blk_cell F6.out.1 4).trans rfl
  go_wp2
  refine bodyPost_ret (v := .tuple #[.agg #[.int .i64 v.kind, .int .i64 v.num, .string v.text, .slice ka v.keys.length kc, .slice ia v.items.length ic], .bool true]) (by simp [results, Tryd.results6, go_sem, q0, q1, q2, q3, q4]) rfl ?_
  exact ⟨_, rfl, HV2.out w5 (fun k h1 h2 => (F6.out.2.2 k (by omega)).trans (H4.out.2.2.2 k h2 (by omega))), F6.out.2.1⟩
end Go.Proofs.YtkafelcnpnlbfaaDoor
