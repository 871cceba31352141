/- The contracts of the reference on govalues' decimals: FixIs, Minus, FixDec. -/
import Derived.Test.YthemaneoighaoaaGreatDoorGvG
namespace Go.Proofs.YthemaneoighaoaaGreatDoor
open Go.RowKit

/-- are the parts those of a decimal? -/
def fixIs (c : Nat) (s : Int) : Bool := decide (c ≤ 9999999999999999999) && (decide (0 ≤ s) && decide (s ≤ 19))

theorem FixIs_any (neg : Bool) (c : Nat) (s : Int) (w : World) : Calls Tryz.prog 14 #[.agg #[.bool neg, .int .u64 c, .int .i64 s]] w (VRet w (.bool (fixIs c s))) := by
  by_cases h1 : c ≤ 9999999999999999999
  · have t1 : decide ((c : Int) ≤ 9999999999999999999) = true := by simp; omega
    by_cases h2 : 0 ≤ s
    · have t2 : decide ((0 : Int) ≤ s) = true := by simp; omega
      by_cases h3 : s ≤ 19
      · have t3 : decide (s ≤ (19 : Int)) = true := by simp; omega
        have hr : fixIs c s = true := by unfold fixIs; simp; omega
        rw [hr]
        clear hr h1 h2 h3
        go_enter Tryz.func14, Tryz.ntmps14
        go_wp2
        go_ret
        exact ⟨rfl, (Keep.refl _ _).alloc _⟩
      · have t3 : decide (s ≤ (19 : Int)) = false := by simp; omega
        have hr : fixIs c s = false := by unfold fixIs; simp; omega
        rw [hr]
        clear hr h1 h2 h3
        go_enter Tryz.func14, Tryz.ntmps14
        go_wp2
        go_ret
        exact ⟨rfl, (Keep.refl _ _).alloc _⟩
    · have t2 : decide ((0 : Int) ≤ s) = false := by simp; omega
      have hr : fixIs c s = false := by unfold fixIs; simp; omega
      rw [hr]
      clear hr h1 h2
      go_enter Tryz.func14, Tryz.ntmps14
      go_wp2
      go_ret
      exact ⟨rfl, (Keep.refl _ _).alloc _⟩
  · have t1 : decide ((c : Int) ≤ 9999999999999999999) = false := by simp; omega
    have hr : fixIs c s = false := by unfold fixIs; simp; omega
    rw [hr]
    clear hr h1
    go_enter Tryz.func14, Tryz.ntmps14
    go_wp2
    go_ret
    exact ⟨rfl, (Keep.refl _ _).alloc _⟩

end Go.Proofs.YthemaneoighaoaaGreatDoor
