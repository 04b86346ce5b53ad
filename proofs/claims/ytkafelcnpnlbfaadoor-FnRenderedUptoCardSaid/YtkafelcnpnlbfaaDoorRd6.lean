/- The reader: an object's parts: the closure that compares two places. -/
import Derived.Test.YtkafelcnpnlbfaaDoorRd5
import Derived.WalkLawsBesides
namespace Go.Proofs.YtkafelcnpnlbfaaDoor
open Go.RowKit

set_option maxHeartbeats 2000000 in
theorem less_any (k5 p8 n kb kc pb pc : Nat) (ks : Nat → ByteArray) (G : Nat → Nat) (W : World) (hk0 : W.cell? ⟨k5, 0, none⟩ = some (.slice (some ⟨kb, 0, none⟩) n kc)) (hkc : ∀ t, t < n → W.cell? ⟨kb, t, none⟩ = some (.string (ks t)))
    (hp0 : W.cell? ⟨p8, 0, none⟩ = some (.slice (some ⟨pb, 0, none⟩) n pc)) (hpc : ∀ t, t < n → W.cell? ⟨pb, t, none⟩ = some (.int .i64 (G t))) (hG : ∀ t, t < n → G t < n) (i j : Nat) (hi : i < n) (hj : j < n) :
    Calls Tryd.prog 35 #[.int .i64 i, .int .i64 j, .pointer (some ⟨k5, 0, none⟩), .pointer (some ⟨p8, 0, none⟩)] W fun e w' => e = .returned (.bool (Op.bytesLess (ks (G i)).toList (ks (G j)).toList)) ∧ ∃ q, w' = W.drewN q := by
  have ci := hpc i hi
  have cj := hpc j hj
  have gi := hG i hi
  have gj := hG j hj
  have ki := hkc _ gi
  have kj := hkc _ gj
  have i1 : (i : Int) < (n : Int) := by omega
  have j1 : (j : Int) < (n : Int) := by omega
  generalize G i = a at *
  generalize G j = b at *
  have a1 : (a : Int) < (n : Int) := by omega
  have b1 : (b : Int) < (n : Int) := by omega
  clear hkc hpc hG
  go_enter Tryd.func35, Tryd.ntmps35
  go_wp2
  go_quiet (fail)
  go_wp2
  go_ret
  exact ⟨rfl, nq, rfl⟩
end Go.Proofs.YtkafelcnpnlbfaaDoor
