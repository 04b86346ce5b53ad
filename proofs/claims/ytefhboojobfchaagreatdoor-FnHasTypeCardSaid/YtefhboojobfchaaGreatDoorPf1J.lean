/- strconv's readFloat. -/
import Derived.Test.YtefhboojobfchaaGreatDoorPf0J
import Derived.WalkMore
set_option linter.unusedVariables false
set_option linter.unusedSimpArgs false
namespace Go.Proofs.YtefhboojobfchaaGreatDoor
open Go.RowKit

def FloatRead (s : ByteArray) (w : World) (e : Ending) (w' : World) : Prop := ∃ (m : Nat) (x : Int) (ng : Bool), e = .returned (.tuple #[.int .u64 m, .int .i64 x, .bool ng, .bool false, .bool false, .int .i64 s.size, .bool true]) ∧ 0 < m ∧ m < 1000000000000000 ∧ -15 ≤ x ∧ x ≤ 0 ∧ w = w'

theorem pow_step {m nd : Nat} {d : Nat} (h : m < 10 ^ nd) (hd : d ≤ 9) : m * 10 + d < 10 ^ (nd + 1) := by
  rw [Nat.pow_succ]
  omega

end Go.Proofs.YtefhboojobfchaaGreatDoor
