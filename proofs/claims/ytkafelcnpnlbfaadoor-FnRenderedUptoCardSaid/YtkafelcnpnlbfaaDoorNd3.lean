/- node: all that is printed. -/
import Derived.Test.YtkafelcnpnlbfaaDoorNd2
namespace Go.Proofs.YtkafelcnpnlbfaaDoor
open Go.RowKit

theorem node_bool (D : Nat) (v : Dat) (w : World) (cs : List Value) (hv : VA w v cs) (p0 : v.kind = 1) :
    Calls Tryd.prog 15 #[.agg cs.toArray, .bool false] w (GivesNode (D + 1) v w) := by
  obtain ⟨ka, ia, kc, ic, rfl, ht, hk, hkc, hkm, hic, him, hit⟩ := hv.inv
  have HP0 := Lib.hid p0
  clear hit hk hv
  rw [p0]
  clear p0
  cases hb : (v.num == 1)
  all_goals
    have HB := Lib.hid hb
    go_enter Tryd.func15, Tryd.ntmps15
    go_wp2_with (first
      | (go_at_call 30; refine (FormatBool_any _ _).mono ?_; rintro e w1 ⟨rfl, rfl⟩)
      | (go_at_call 29; refine (scalar_any _ _ _).mono ?_; rintro e w1 ⟨rfl, hw1⟩; have W1 := Lib.hid hw1; clear hw1))
    go_ret
    rw [W1.out]
    exact ⟨_, rfl, ⟨⟨by simp, by simp⟩, .inl ⟨tBool, _, .inl ⟨HP0.out, rfl, by rw [HB.out]⟩, by simpa [nodeBlk, tBool] using blk_new (w.alloc _) (nodeBlk 8 tBool _ (.slice none 0 0))⟩⟩, up_alloc (up_alloc (Below.refl _ _) _) _⟩

theorem node_text (D : Nat) (v : Dat) (w : World) (cs : List Value) (hv : VA w v cs) (p0 : v.kind = 3) :
    Calls Tryd.prog 15 #[.agg cs.toArray, .bool false] w (GivesNode (D + 1) v w) := by
  obtain ⟨ka, ia, kc, ic, rfl, ht, hk, hkc, hkm, hic, him, hit⟩ := hv.inv
  have HP0 := Lib.hid p0
  clear hit hk hv
  rw [p0]
  clear p0
  go_enter Tryd.func15, Tryd.ntmps15
  go_wp2_with (first
    | (go_at_call 29; refine (scalar_any _ _ _).mono ?_; rintro e w1 ⟨rfl, hw1⟩; have W1 := Lib.hid hw1; clear hw1))
  go_ret
  rw [W1.out]
  exact ⟨_, rfl, ⟨⟨by simp, by simp⟩, .inl ⟨tStr, _, .inr ⟨HP0.out, rfl, rfl⟩, by simpa [nodeBlk, tStr] using blk_new (w.alloc _) (nodeBlk 8 tStr _ (.slice none 0 0))⟩⟩, up_alloc (up_alloc (Below.refl _ _) _) _⟩

theorem node_any : ∀ (D : Nat) (v : Dat) (w : World) (cs : List Value), VA w v cs → Plain D v → Prn v → Calls Tryd.prog 15 #[.agg cs.toArray, .bool false] w (GivesNode (D + 1) v w) := by
  have flat : ∀ (D : Nat) (v : Dat) (w : World) (cs : List Value), VA w v cs → Flat v → Prn v → Calls Tryd.prog 15 #[.agg cs.toArray, .bool false] w (GivesNode (D + 1) v w) := by
    intro D v w cs hv hf hp
    obtain ⟨_, n0, n2, n6, _⟩ := hp
    rcases hf with h | h | h | h | h
    · exact absurd h.1 n0
    · exact node_bool D v w cs hv h.1
    · exact absurd h.1 n2
    · exact absurd h.1 n6
    · exact node_text D v w cs hv h.1
  intro D
  induction D with
  | zero => exact fun v w cs hv hf hp => flat 0 v w cs hv hf hp
  | succ D ih =>
    intro v w cs hv hf hp
    rcases hf with h | ⟨h0, _, _, _, h4, h5⟩ | ⟨h0, _, _, hkl, h4, _, h5⟩
    · exact flat _ v w cs hv h hp
    · obtain ⟨_, n0, n2, n6, _, _, hi, _⟩ := hp
      exact node_list _ v w cs hv h0 h4 (fun i h W cs hv => ih _ W cs hv (h5 i h) (hi (by omega) i h))
    · obtain ⟨_, n0, n2, n6, _, _, hi, _⟩ := hp
      exact node_map _ v w cs hv h0 hkl h4 (fun i h W cs hv => ih _ W cs hv (h5 i h) (hi (by omega) i h))
end Go.Proofs.YtkafelcnpnlbfaaDoor
