/- The contracts of the reference's rounding: rounds and Frac.Round, half to even. -/
import Derived.Test.YtllencgncinphaaGreatDoorKE9
import Derived.Test.YtllencgncinphaaGreatDoorKE15
import Derived.Test.YtllencgncinphaaGreatDoorKE16
namespace Go.Proofs.YtllencgncinphaaGreatDoor
open Go.RowKit
open Go.Lib (hid)

def RdIs (w : World) (x : Value) (z : Int) (s : Nat) : Prop := ∃ nb v l, x = .agg #[.bool nb, v, .int .i64 (-(s : Int))] ∧ SNat w v l ∧ Norm l ∧ (l = [] → nb = false) ∧ sint nb l = z

theorem RdIs.fresh {w w' : World} {x : Value} {z : Int} {s : Nat} (h : RdIs w x z s) (hk : Fresh w w') : RdIs w' x z s := by
 obtain ⟨nb, v, l, h1, h2, h3⟩ := h
 exact ⟨nb, v, l, h1, h2.fresh hk, h3⟩

theorem low_odd {l : List Nat} : sval l % 2 = l.getD 0 0 % 2 := by
 cases l with
 | nil => rfl
 | cons x xs => simp only [sval, List.getD_cons_zero]; omega

theorem pow_spow {p n : Nat} (h : p < 9 * n) : 10 ^ p < spow n := by
 rw [spow_ten]
 exact Nat.pow_lt_pow_right (by omega) h

theorem sint_sgn {neg : Bool} {l m : List Nat} {n : Nat} (hl : Norm l) (hm : Norm m) (hc : l = [] → neg = false) (hv : sval m = n) (_h0 : sval l = 0 → n = 0) : sint (neg && decide (0 < m.length)) m = sgnN (sint neg l) n := by
 rw [sint_canon _ hm]
 unfold sgnN
 cases neg
 · have e : ¬ sint false l < 0 := by simp [sint]
   rw [if_neg e]
   simp [sint, hv]
 · have hp := sint_pos hl (fun e => by have := hc e; simp at this)
   have e : sint true l < 0 := by simp [sint]; omega
   rw [if_pos e]
   simp [sint, hv]

end Go.Proofs.YtllencgncinphaaGreatDoor
