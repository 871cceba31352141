/- govalues.Decimal.addMulFint. -/
import Derived.Deep.CutBlock
import Derived.Test.YtmgidnjpkbgmgabGreatDoorK5
import Derived.Test.YtmgidnjpkbgmgabGreatDoorK16
import Derived.Test.YtmgidnjpkbgmgabGreatDoorK17
import Derived.Test.YtmgidnjpkbgmgabGreatDoorK44
namespace Go.Proofs.YtmgidnjpkbgmgabGreatDoor
open Go.RowKit

def fshTo (x k : Nat) : Value := if k ≤ 19 then mulTo (x * 10 ^ k) else .tuple #[.int .u64 0, .bool false]

theorem fsh_any (x k : Nat) (w : World) (hP : Pow10s w) (hx : x ≤ 9999999999999999999) (hk : k ≤ 100) :
    Calls Tryz.prog 116 #[.int .u64 x, .int .i64 k] w (fun e w' => e = .returned (fshTo x k) ∧ w' = w) := by
  unfold fshTo
  by_cases h : k ≤ 19
  · rw [if_pos h]; exact flsh_any x k w hP hx h
  · rw [if_neg h]
    have t1 : decide ((k : Int) ≤ 0) = false := by simp; omega
    have t2 : ((k : Int) == 1) = false := by rw [beq_eq_false_iff_ne]; omega
    have t3 : decide ((20 : Int) ≤ (k : Int)) = true := by simp; omega
    clear hP
    go_enter Tryz.func116, Tryz.ntmps116
    go_wp2
    go_ret2
    exact ⟨rfl, rfl⟩

theorem mulTo_yes {n : Nat} (h : n ≤ 9999999999999999999) : mulTo n = .tuple #[.int .u64 n, .bool true] := by unfold mulTo; rw [if_pos h]
theorem mulTo_no {n : Nat} (h : ¬ n ≤ 9999999999999999999) : mulTo n = .tuple #[.int .u64 0, .bool false] := by unfold mulTo; rw [if_neg h]

def AMOut (w : World) (fit : Prop) (nz : Bool) (sz cz : Nat) (Pv : Value → Prop) (e : Ending) (w' : World) : Prop := (fit ∧ DOut w nz sz cz Pv e w') ∨ (¬ fit ∧ ClampErr w e w')

end Go.Proofs.YtmgidnjpkbgmgabGreatDoor
