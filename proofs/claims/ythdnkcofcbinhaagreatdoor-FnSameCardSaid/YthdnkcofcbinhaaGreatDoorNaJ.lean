/- node: every Value that is plain data; schemaOf. -/
import Derived.Test.YthdnkcofcbinhaaGreatDoorDaJ
import Derived.Test.YthdnkcofcbinhaaGreatDoorGd2J
import Derived.Test.YthdnkcofcbinhaaGreatDoorGnJ
import Derived.Test.YthdnkcofcbinhaaGreatDoorQtJ
import Derived.Test.YthdnkcofcbinhaaGreatDoorRiJ
set_option linter.unusedVariables false
set_option linter.unusedSimpArgs false
namespace Go.Proofs.YthdnkcofcbinhaaGreatDoor
open Go.RowKit Go.Maps

theorem node_all : ∀ (D : Nat) (v : Dat) (w : World) (cs : List Value), VA w v cs → Tab w → Plain D v → Calls Tryz.prog 27 #[.agg cs.toArray, .bool false] w (GivesNode (D + 1) v w) := by
  have flat : ∀ (D : Nat) (v : Dat) (w : World) (cs : List Value), VA w v cs → Tab w → Flat v → Calls Tryz.prog 27 #[.agg cs.toArray, .bool false] w (GivesNode (D + 1) v w) := by
    intro D v w cs hv hT h
    rcases h with h | h | h | h | h
    · exact node_null D v w cs hv h.1
    · exact node_bool D v w cs hv h.1
    · exact node_int D v w cs hv hT h.1 h.2.1 h.2.2.1
    · exact node_quarter D v w cs hv hT h.1 h.2.1 h.2.2.1
    · exact node_text D v w cs hv h.1
  intro D
  induction D with
  | zero => exact fun v w cs hv hT h => flat 0 v w cs hv hT h
  | succ D ih =>
    intro v w cs hv hT h
    rcases h with h | h | h
    · exact flat _ v w cs hv hT h
    · exact node_list (D + 1) v w cs hv h.1 h.2.2.2.2.1 (fun i hi W cs' hb hv' => ih v.items[i] W cs' hv' (hT.up hb) (h.2.2.2.2.2 i hi))
    · exact node_map (D + 1) v w cs hv h.1 h.2.2.2.1 h.2.2.2.2.1 (fun i hi W cs' hb hv' => ih v.items[i] W cs' hv' (hT.up hb) (h.2.2.2.2.2.2 i hi))

def GivesSchema (D : Nat) (v : Dat) (w : World) (e : Ending) (w' : World) : Prop :=
  ∃ (b : Nat) (S : Nat → Prop), e = .returned (.pointer (some ⟨b, 0, none⟩)) ∧ Sch S w' (D + 1) v b ∧ Below w.heap.size w w'

set_option maxHeartbeats 1000000 in
theorem schemaOf_any (D : Nat) (v : Dat) (w : World) (cs : List Value) (hv : VA w v cs) (hT : Tab w) (hF : FT w.heap.size w) (hp : Plain D v) (hsh : IsShp v) :
    Calls Tryz.prog 18 #[.agg cs.toArray, .bool false] w (GivesSchema D v w) := by
  have HNODE := Lib.hid (fun W (hb : Below w.heap.size w W) => node_all D v W cs (hv.up hb) (hT.up hb) hp)
  obtain ⟨ka, ia, kc, ic, rfl, -⟩ := hv.inv
  have HFT := Lib.hid hF
  have HP := Lib.hid hp
  have HSH := Lib.hid hsh
  have hmm := @run_makeMap Tryz.prog
  clear hv hT hp hsh hF
  go_enter Tryz.func18, Tryz.ntmps18
  go_wp2_with fail
  go_at_call 27
  refine (HNODE.out _ (up_alloc (Below.refl _ _) _)).mono ?_
  rintro e w1 ⟨n, rfl, hn, hb⟩
  have HB1 := Lib.hid (up_trans (up_alloc (Below.refl w.heap.size w) _) hb)
  have HN := Lib.hid hn
  clear hb hn
  go_wp2_with fail
  go_at_call 26
  refine (reads_all (w1.heap.size + 1) w1.heap.size (by omega) D v n _ ?_ ?_ ?_ HP.out HSH.out).mono ?_
  · simp
  · exact ⟨⟨#[], 0, blk_new w1 _, fun x hx => by simp at hx⟩, (HFT.out.move (fun k hk => (up_alloc HB1.out _).block k hk)).wide HB1.out.size⟩
  · exact HN.out.move (fun k hk => (up_alloc (Below.refl _ _) _).block k hk.2) (fun k hk => ⟨by omega, by omega⟩)
  rintro e w2 ⟨b, rfl, hs, hg, hm⟩
  have HS := Lib.hid hs
  have HB2 : Hid (Below w.heap.size w w2) := Lib.hid (by
    have h1 := HB1.out
    refine ⟨hg.os.trans h1.os, hg.tape.trans h1.tape, hg.output.trans h1.output, ?_, fun k hk => ?_⟩
    · have := hg.size
      simp at this
      have := h1.size
      omega
    · have := h1.size
      rw [hg.block k (by simp; omega) (by simp; omega)]
      exact (up_alloc h1 _).block k hk)
  clear hs hg hm
  go_wp2
  go_ret
  exact ⟨b, _, rfl, HS.out, HB2.out⟩
end Go.Proofs.YthdnkcofcbinhaaGreatDoor

/- String, IsEqual, Same (the library's part). -/
namespace Go.Proofs.YthdnkcofcbinhaaGreatDoor
open Go.RowKit

theorem desc_all : ∀ D, DescAt D
  | 0 => fun S v b ind w hS hsch => False.elim hsch
  | D + 1 => desc_step D (desc_all D)

set_option maxHeartbeats 1000000 in
theorem String_any (D : Nat) (S : Nat → Prop) (v : Dat) (b : Nat) (w : World) (hS : ∀ k, S k → k < w.heap.size) (hsch : Sch S w D v b) (hok : OkD v) (hT : Tab w) (hlen : (descr D [] v).length ≤ 9223372036854775807) :
    Calls Tryz.prog 28 #[.pointer (some ⟨b, 0, none⟩)] w (GivesText (descr D [] v) w) := by
  have H := Lib.hid (desc_all D S v b ⟨#[]⟩ w hS hsch hok hT (by simpa [bs] using hlen))
  clear hS hsch hok hT hlen
  go_enter Tryz.func28, Tryz.ntmps28
  go_wp2_with fail
  go_at_call 51
  refine H.out.mono ?_
  rintro e w1 ⟨s, rfl, hs, hb⟩
  have HS := Lib.hid hs
  have HB := Lib.hid hb
  clear hs hb
  go_wp2
  go_ret
  exact ⟨s, rfl, HS.out, HB.out⟩

theorem bs_inj {s t : ByteArray} (h : bs s = bs t) : s = t := ByteArray.ext (Array.ext' h)

set_option maxHeartbeats 1000000 in
theorem IsEqual_any (D : Nat) (S T : Nat → Prop) (x y : Dat) (a b : Nat) (w : World) (hS : ∀ k, S k → k < w.heap.size) (hT' : ∀ k, T k → k < w.heap.size) (ha : Sch S w D x a) (hb : Sch T w D y b) (ox : OkD x) (oy : OkD y) (hT : Tab w)
    (hlen : (descr D [] x).length ≤ 9223372036854775807) (he : descr D [] x = descr D [] y) :
    Calls Tryz.prog 19 #[.pointer (some ⟨a, 0, none⟩), .pointer (some ⟨b, 0, none⟩)] w fun e w' => e = .returned (.bool true) ∧ Below w.heap.size w w' := by
  have H1 := Lib.hid (String_any D S x a w hS ha ox hT hlen)
  have H2 := Lib.hid (fun W (hW : Below w.heap.size w W) => String_any D T y b W (fun k hk => Nat.lt_of_lt_of_le (hT' k hk) hW.size) (Sch.move (fun k hk => hW.block k (hT' k hk)) (fun _ h => h) D y b hb) oy (hT.up hW) (he ▸ hlen))
  have HE := Lib.hid he
  clear hS hT' ha hb ox oy hT hlen he
  go_enter Tryz.func19, Tryz.ntmps19
  go_wp2_with fail
  go_at_call 28
  refine H1.out.mono ?_
  rintro e w1 ⟨s, rfl, hs, hb⟩
  have HS := Lib.hid hs
  have HB := Lib.hid hb
  clear hs hb
  go_wp2_with fail
  go_at_call 28
  refine (H2.out _ HB.out).mono ?_
  rintro e w2 ⟨t, rfl, ht, hb⟩
  have est : s = t := bs_inj (HS.out.trans (HE.out.trans ht.symm))
  subst est
  have HB2 := Lib.hid (up_trans HB.out hb)
  clear ht hb
  have hbe : (s.toList == s.toList) = true := by simp
  go_wp2
  go_ret
  exact ⟨rfl, HB2.out⟩

def GivesSchemaIn (D : Nat) (v : Dat) (w : World) (e : Ending) (w' : World) : Prop :=
  ∃ (b : Nat) (S : Nat → Prop), e = .returned (.pointer (some ⟨b, 0, none⟩)) ∧ (∀ k, S k → k < w'.heap.size) ∧ Sch S w' (D + 1) v b ∧ Below w.heap.size w w'

set_option maxHeartbeats 1000000 in
theorem schemaOf_in (D : Nat) (v : Dat) (w : World) (cs : List Value) (hv : VA w v cs) (hT : Tab w) (hF : FT w.heap.size w) (hp : Plain D v) (hsh : IsShp v) :
    Calls Tryz.prog 18 #[.agg cs.toArray, .bool false] w (GivesSchemaIn D v w) := by
  have HNODE := Lib.hid (fun W (hb : Below w.heap.size w W) => node_all D v W cs (hv.up hb) (hT.up hb) hp)
  obtain ⟨ka, ia, kc, ic, rfl, -⟩ := hv.inv
  have HFT := Lib.hid hF
  have HP := Lib.hid hp
  have HSH := Lib.hid hsh
  have hmm := @run_makeMap Tryz.prog
  clear hv hT hp hsh hF
  go_enter Tryz.func18, Tryz.ntmps18
  go_wp2_with fail
  go_at_call 27
  refine (HNODE.out _ (up_alloc (Below.refl _ _) _)).mono ?_
  rintro e w1 ⟨n, rfl, hn, hb⟩
  have HB1 := Lib.hid (up_trans (up_alloc (Below.refl w.heap.size w) _) hb)
  have HN := Lib.hid hn
  clear hb hn
  go_wp2_with fail
  go_at_call 26
  refine (reads_all (w1.heap.size + 1) w1.heap.size (by omega) D v n _ ?_ ?_ ?_ HP.out HSH.out).mono ?_
  · simp
  · exact ⟨⟨#[], 0, blk_new w1 _, fun x hx => by simp at hx⟩, (HFT.out.move (fun k hk => (up_alloc HB1.out _).block k hk)).wide HB1.out.size⟩
  · exact HN.out.move (fun k hk => (up_alloc (Below.refl _ _) _).block k hk.2) (fun k hk => ⟨by omega, by omega⟩)
  rintro e w2 ⟨b, rfl, hs, hg, hm⟩
  have HS := Lib.hid hs
  have HZ : Hid (w1.heap.size + 1 ≤ w2.heap.size) := Lib.hid (by have := hg.size; simpa using this)
  have HB2 : Hid (Below w.heap.size w w2) := Lib.hid (by
    have h1 := HB1.out
    refine ⟨hg.os.trans h1.os, hg.tape.trans h1.tape, hg.output.trans h1.output, ?_, fun k hk => ?_⟩
    · have := hg.size
      simp at this
      have := h1.size
      omega
    · have := h1.size
      rw [hg.block k (by simp; omega) (by simp; omega)]
      exact (up_alloc h1 _).block k hk)
  clear hs hg hm
  go_wp2
  go_ret
  refine ⟨b, _, rfl, fun k hk => ?_, HS.out, HB2.out⟩
  have hz := HZ.out
  unfold SN at hk
  omega
end Go.Proofs.YthdnkcofcbinhaaGreatDoor

/- impl.Same. -/
namespace Go.Proofs.YthdnkcofcbinhaaGreatDoor
open Go.RowKit

set_option maxRecDepth 100000 in
set_option maxHeartbeats 4000000 in
/-- Two schemas of one text are the same for the library. -/
theorem impl_Same (D : Nat) (x y : Dat) (w : World) (cs ds : List Value) (hv : VA w x cs) (hu : VA w y ds) (hT : Tab w) (hF : FT w.heap.size w) (hp : Plain D x) (hq : Plain D y) (ox : OkD x) (oy : OkD y)
    (hlen : (descr (D + 1) [] x).length ≤ 9223372036854775807) (he : descr (D + 1) [] x = descr (D + 1) [] y) :
    Calls Tryz.prog 9 #[.agg cs.toArray, .agg ds.toArray, .bool false] w fun e w' => e = .returned (.bool true) ∧ Below w.heap.size w w' := by
  have HSA := Lib.hid (fun W (hb : Below w.heap.size w W) => schemaOf_in D x W cs (hv.up hb) (hT.up hb) ((hF.move (fun k hk => hb.block k hk)).wide hb.size) hp ox.1)
  have HSB := Lib.hid (fun W (hb : Below w.heap.size w W) => schemaOf_in D y W ds (hu.up hb) (hT.up hb) ((hF.move (fun k hk => hb.block k hk)).wide hb.size) hq oy.1)
  have HT := Lib.hid (fun W (hb : Below w.heap.size w W) => hT.up hb)
  have OX := Lib.hid ox
  have OY := Lib.hid oy
  have HL := Lib.hid hlen
  have HE := Lib.hid he
  obtain ⟨ka, ia, kc, ic, rfl, -⟩ := hv.inv
  obtain ⟨kb, ib, kd, id_, rfl, -⟩ := hu.inv
  clear hv hu hT hF hp hq ox oy hlen he
  obtain ⟨W2, hW2⟩ : ∃ W2, W2 = (w.alloc (.cells #[.int .i64 x.kind, .int .i64 x.num, .string x.text, .slice ka x.keys.length kc, .slice ia x.items.length ic] 25 (0, 0))).alloc (.cells #[.int .i64 y.kind, .int .i64 y.num, .string y.text, .slice kb y.keys.length kd, .slice ib y.items.length id_] 25 (0, 0)) := ⟨_, rfl⟩
  have HSF0 : Hid (∀ W : World, Below (w.heap.size + 2) ((w.alloc (.cells #[.int .i64 x.kind, .int .i64 x.num, .string x.text, .slice ka x.keys.length kc, .slice ia x.items.length ic] 25 (0, 0))).alloc (.cells #[.int .i64 y.kind, .int .i64 y.num, .string y.text, .slice kb y.keys.length kd, .slice ib y.items.length id_] 25 (0, 0))) W →
    W.cell? ⟨w.heap.size, 0, none⟩ = some (.int .i64 x.kind) ∧ W.cell? ⟨w.heap.size, 1, none⟩ = some (.int .i64 x.num) ∧ W.cell? ⟨w.heap.size, 2, none⟩ = some (.string x.text) ∧ W.cell? ⟨w.heap.size, 3, none⟩ = some (.slice ka x.keys.length kc) ∧ W.cell? ⟨w.heap.size, 4, none⟩ = some (.slice ia x.items.length ic) ∧
    W.cell? ⟨w.heap.size + 1, 0, none⟩ = some (.int .i64 y.kind) ∧ W.cell? ⟨w.heap.size + 1, 1, none⟩ = some (.int .i64 y.num) ∧ W.cell? ⟨w.heap.size + 1, 2, none⟩ = some (.string y.text) ∧ W.cell? ⟨w.heap.size + 1, 3, none⟩ = some (.slice kb y.keys.length kd) ∧ W.cell? ⟨w.heap.size + 1, 4, none⟩ = some (.slice ib y.items.length id_)
    ) := Lib.hid (fun W hb => by
      have e : (w.alloc (.cells #[.int .i64 x.kind, .int .i64 x.num, .string x.text, .slice ka x.keys.length kc, .slice ia x.items.length ic] 25 (0, 0))).heap.size = w.heap.size + 1 := by simp
      have h1 := (hb.block w.heap.size (by omega)).trans (blk_up (blk_new w (.cells #[.int .i64 x.kind, .int .i64 x.num, .string x.text, .slice ka x.keys.length kc, .slice ia x.items.length ic] 25 (0, 0))) (up_alloc (Below.refl _ _) _))
      have h2 : W.heap[w.heap.size + 1]? = some (.cells #[.int .i64 y.kind, .int .i64 y.num, .string y.text, .slice kb y.keys.length kd, .slice ib y.items.length id_] 25 (0, 0)) := (hb.block (w.heap.size + 1) (by omega)).trans (by have := blk_new (w.alloc (.cells #[.int .i64 x.kind, .int .i64 x.num, .string x.text, .slice ka x.keys.length kc, .slice ia x.items.length ic] 25 (0, 0))) (.cells #[.int .i64 y.kind, .int .i64 y.num, .string y.text, .slice kb y.keys.length kd, .slice ib y.items.length id_] 25 (0, 0)); rwa [e] at this)
      exact ⟨(blk_cell h1 0).trans rfl, (blk_cell h1 1).trans rfl, (blk_cell h1 2).trans rfl, (blk_cell h1 3).trans rfl, (blk_cell h1 4).trans rfl, (blk_cell h2 0).trans rfl, (blk_cell h2 1).trans rfl, (blk_cell h2 2).trans rfl, (blk_cell h2 3).trans rfl, (blk_cell h2 4).trans rfl⟩)
  rw [← hW2] at HSF0
  have HSF := HSF0
  have HZ2 : Hid (W2.heap.size = w.heap.size + 2) := Lib.hid (by rw [hW2]; simp)
  have HU2 : Hid (Below w.heap.size w W2) := Lib.hid (by rw [hW2]; exact up_alloc (up_alloc (Below.refl _ _) _) _)
  have HEQ := Lib.hid hW2
  clear HSF0 hW2
  go_enter Tryz.func9, Tryz.ntmps9
  go_wp2_with fail
  rw [← HEQ.out]
  refine AnyT.begin (L := 99) (n := 7) (S := fun w' =>
    w'.cell? ⟨w.heap.size, 0, none⟩ = some (.int .i64 x.kind) ∧ w'.cell? ⟨w.heap.size, 1, none⟩ = some (.int .i64 x.num) ∧ w'.cell? ⟨w.heap.size, 2, none⟩ = some (.string x.text) ∧ w'.cell? ⟨w.heap.size, 3, none⟩ = some (.slice ka x.keys.length kc) ∧ w'.cell? ⟨w.heap.size, 4, none⟩ = some (.slice ia x.items.length ic) ∧
    w'.cell? ⟨w.heap.size + 1, 0, none⟩ = some (.int .i64 y.kind) ∧ w'.cell? ⟨w.heap.size + 1, 1, none⟩ = some (.int .i64 y.num) ∧ w'.cell? ⟨w.heap.size + 1, 2, none⟩ = some (.string y.text) ∧ w'.cell? ⟨w.heap.size + 1, 3, none⟩ = some (.slice kb y.keys.length kd) ∧ w'.cell? ⟨w.heap.size + 1, 4, none⟩ = some (.slice ib y.items.length id_)
    ) (by kernel_rfl) rfl ?_
  have S0 := HSF.out W2.drew (Below.drew (Below.refl _ _))
  refine AnyT.takeS (i := 0) (d := some 9) (v := ?_) rfl rfl (by kernel_rfl) (by kernel_rfl) (by kernel_rfl) (by kernel_rfl) (fun _ _ _ h => h) (by rfl) (by assumption) ?_ ?_
  rotate_left
  · intro W hSw
    try dsimp only at hSw
    go_simp
    with_reducible rfl
  try simp only [Act.put, List.setIfInBounds_toArray, List.set_cons_zero, List.set_cons_succ]
  refine AnyT.takeS (i := 2) (d := some 11) (v := ?_) rfl rfl (by kernel_rfl) (by kernel_rfl) (by kernel_rfl) (by kernel_rfl) (fun _ _ _ h => h) (by rfl) (by assumption) ?_ ?_
  rotate_left
  · intro W hSw
    try dsimp only at hSw
    go_simp
    with_reducible rfl
  try simp only [Act.put, List.setIfInBounds_toArray, List.set_cons_zero, List.set_cons_succ]
  refine AnyT.takeY (i := 3) (d := some 12) (v := ?_) rfl rfl (by kernel_rfl) (by kernel_rfl) (by kernel_rfl) (fun _ _ _ h => h) (by rfl) ?_ ?_
  rotate_left
  · intro W
    go_simp
    with_reducible rfl
  try simp only [Act.put, List.setIfInBounds_toArray, List.set_cons_zero, List.set_cons_succ]
  refine AnyT.one (i := 1) rfl (by kernel_rfl) (fun K' hK => ?_)
  go_simp
  go_at_call 18
  refine (HSA.out _ (up_drew HU2.out)).mono ?_
  rintro e w3 ⟨a, S, rfl, hS, hs, hb⟩
  have HB3 := Lib.hid (up_trans (up_drew (Below.refl _ _)) hb)
  have HI3 := Lib.hid hS
  have HS3 := Lib.hid hs
  clear hS hs hb S0
  go_wp2_with fail
  refine hK.out _ _ (fun _ _ => HSF.out _ (HB3.out.mono (by have := HZ2.out; omega))) ?_
  clear hK K'
  try simp only [Act.put, List.setIfInBounds_toArray, List.set_cons_zero, List.set_cons_succ]
  refine AnyT.one (i := 4) rfl (by kernel_rfl) (fun K' hK => ?_)
  go_simp
  go_at_call 18
  refine (HSB.out _ (up_trans HU2.out HB3.out)).mono ?_
  rintro e w4 ⟨b, T, rfl, hS, hs, hb⟩
  have HI4 := Lib.hid hS
  have HS4 := Lib.hid hs
  have HS34 := Lib.hid (Sch.move (fun k hk => hb.block k (HI3.out k hk)) (fun _ h => h) _ _ _ HS3.out)
  have HI34 := Lib.hid (fun k (hk : S k) => Nat.lt_of_lt_of_le (HI3.out k hk) hb.size)
  have HB4 := Lib.hid (up_trans HB3.out hb)
  clear hS hs hb
  go_wp2_with fail
  refine hK.out _ _ (fun _ _ => HSF.out _ (HB4.out.mono (by have := HZ2.out; omega))) ?_
  clear hK K'
  try simp only [Act.put, List.setIfInBounds_toArray, List.set_cons_zero, List.set_cons_succ]
  refine AnyT.takeY (i := 5) (d := some 7) (v := ?_) rfl rfl (by kernel_rfl) (by kernel_rfl) (by kernel_rfl) (fun _ _ _ h => h) (by rfl) ?_ ?_
  rotate_left
  · intro W
    go_simp
    with_reducible rfl
  try simp only [Act.put, List.setIfInBounds_toArray, List.set_cons_zero, List.set_cons_succ]
  refine AnyT.takeY (i := 6) (d := some 8) (v := ?_) rfl rfl (by kernel_rfl) (by kernel_rfl) (by kernel_rfl) (fun _ _ _ h => h) (by rfl) ?_ ?_
  rotate_left
  · intro W
    go_simp
    with_reducible rfl
  try simp only [Act.put, List.setIfInBounds_toArray, List.set_cons_zero, List.set_cons_succ]
  refine AnyT.end (by kernel_rfl) ?_ _
  try simp only [Act.put, List.setIfInBounds_toArray, List.set_cons_zero, List.set_cons_succ]
  go_wp2_with fail
  go_at_call 19
  refine (IsEqual_any (D + 1) S T x y a b w4 HI34.out HI4.out HS34.out HS4.out OX.out OY.out (HT.out _ (up_trans HU2.out HB4.out)) HL.out HE.out).mono ?_
  rintro e w5 ⟨rfl, hb⟩
  have HB5 := Lib.hid (up_trans (up_trans HU2.out HB4.out) hb)
  clear hb
  go_wp2
  go_ret
  exact ⟨rfl, HB5.out⟩
end Go.Proofs.YthdnkcofcbinhaaGreatDoor
