/- Whole numbers of any length: a result, or no room. -/
import Derived.Test.YtjdfapoomjeabaaGreatDoorK17
import Derived.Test.YtjdfapoomjeabaaGreatDoorK40
namespace Go.Proofs.YtjdfapoomjeabaaGreatDoor
open Go.RowKit

theorem sumC_le (m1 m2 : Bool) (a e : Nat) : sumC m1 m2 a e ≤ a + e := by
  unfold sumC adf
  split
  · omega
  · split <;> omega

theorem mul_lt38 {c1 c2 : Nat} (h1 : c1 ≤ 9999999999999999999) (h2 : c2 ≤ 9999999999999999999) : c1 * c2 < 10 ^ 38 := by
  have := Nat.mul_le_mul h1 h2
  rw [show (10 : Nat) ^ 38 = 100000000000000000000000000000000000000 from rfl]
  omega

end Go.Proofs.YtjdfapoomjeabaaGreatDoor
