/- node: every Value that is plain data; schemaOf. -/
import Derived.Test.YtefhboojobfchaaGreatDoorGd2J
import Derived.Test.YtefhboojobfchaaGreatDoorNs5J
import Derived.Test.YtefhboojobfchaaGreatDoorQtJ
set_option linter.unusedVariables false
set_option linter.unusedSimpArgs false
namespace Go.Proofs.YtefhboojobfchaaGreatDoor
open Go.RowKit Go.Maps

theorem node_all : ∀ (D : Nat) (v : Dat) (w : World) (cs : List Value), VA w v cs → Tab w → Plain D v → Calls Tryz.prog 20 #[.agg cs.toArray, .bool false] w (GivesNode (D + 1) v w) := by
  have flat : ∀ (D : Nat) (v : Dat) (w : World) (cs : List Value), VA w v cs → Tab w → Flat v → Calls Tryz.prog 20 #[.agg cs.toArray, .bool false] w (GivesNode (D + 1) v w) := by
    intro D v w cs hv hT h
    rcases h with h | h | h | h | h
    · exact node_null D v w cs hv h.1
    · exact node_bool D v w cs hv h.1
    · exact node_int D v w cs hv hT h.1 h.2.1 h.2.2.1
    · exact node_quarter D v w cs hv hT h.1 h.2.1 h.2.2.1
    · exact node_text D v w cs hv h.1
  intro D
  induction D with
  | zero => exact fun v w cs hv hT h => flat 0 v w cs hv hT h
  | succ D ih =>
    intro v w cs hv hT h
    rcases h with h | h | h
    · exact flat _ v w cs hv hT h
    · exact node_list (D + 1) v w cs hv h.1 h.2.2.2.2.1 (fun i hi W cs' hb hv' => ih v.items[i] W cs' hv' (hT.up hb) (h.2.2.2.2.2 i hi))
    · exact node_map (D + 1) v w cs hv h.1 h.2.2.2.1 h.2.2.2.2.1 (fun i hi W cs' hb hv' => ih v.items[i] W cs' hv' (hT.up hb) (h.2.2.2.2.2.2 i hi))

def GivesSchema (D : Nat) (v : Dat) (w : World) (e : Ending) (w' : World) : Prop :=
  ∃ (b : Nat) (S : Nat → Prop), e = .returned (.pointer (some ⟨b, 0, none⟩)) ∧ Sch S w' (D + 1) v b ∧ Below w.heap.size w w'

set_option maxHeartbeats 1000000 in
theorem schemaOf_any (D : Nat) (v : Dat) (w : World) (cs : List Value) (hv : VA w v cs) (hT : Tab w) (hF : FT w.heap.size w) (hp : Plain D v) (hsh : IsShp v) :
    Calls Tryz.prog 11 #[.agg cs.toArray, .bool false] w (GivesSchema D v w) := by
  have HNODE := Lib.hid (fun W (hb : Below w.heap.size w W) => node_all D v W cs (hv.up hb) (hT.up hb) hp)
  obtain ⟨ka, ia, kc, ic, rfl, -⟩ := hv.inv
  have HFT := Lib.hid hF
  have HP := Lib.hid hp
  have HSH := Lib.hid hsh
  have hmm := @run_makeMap Tryz.prog
  clear hv hT hp hsh hF
  go_enter Tryz.func11, Tryz.ntmps11
  go_wp2_with fail
  go_at_call 20
  refine (HNODE.out _ (up_alloc (Below.refl _ _) _)).mono ?_
  rintro e w1 ⟨n, rfl, hn, hb⟩
  have HB1 := Lib.hid (up_trans (up_alloc (Below.refl w.heap.size w) _) hb)
  have HN := Lib.hid hn
  clear hb hn
  go_wp2_with fail
  go_at_call 19
  refine (reads_all (w1.heap.size + 1) w1.heap.size (by omega) D v n _ ?_ ?_ ?_ HP.out HSH.out).mono ?_
  · simp
  · exact ⟨⟨#[], 0, blk_new w1 _, fun x hx => by simp at hx⟩, (HFT.out.move (fun k hk => (up_alloc HB1.out _).block k hk)).wide HB1.out.size⟩
  · exact HN.out.move (fun k hk => (up_alloc (Below.refl _ _) _).block k hk.2) (fun k hk => ⟨by omega, by omega⟩)
  rintro e w2 ⟨b, rfl, hs, hg, hm⟩
  have HS := Lib.hid hs
  have HB2 : Hid (Below w.heap.size w w2) := Lib.hid (by
    have h1 := HB1.out
    refine ⟨hg.os.trans h1.os, hg.tape.trans h1.tape, hg.output.trans h1.output, ?_, fun k hk => ?_⟩
    · have := hg.size
      simp at this
      have := h1.size
      omega
    · have := h1.size
      rw [hg.block k (by simp; omega) (by simp; omega)]
      exact (up_alloc h1 _).block k hk)
  clear hs hg hm
  go_wp2
  go_ret
  exact ⟨b, _, rfl, HS.out, HB2.out⟩
end Go.Proofs.YtefhboojobfchaaGreatDoor
