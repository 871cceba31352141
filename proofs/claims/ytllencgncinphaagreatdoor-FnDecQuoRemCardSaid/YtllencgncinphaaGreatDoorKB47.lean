/- What the facts of the laws that divide two decimals share. -/
import Derived.Test.YtllencgncinphaaGreatDoorKB20
import Derived.Test.YtllencgncinphaaGreatDoorKB43
import Derived.Test.YtllencgncinphaaGreatDoorKB46
namespace Go.Proofs.YtllencgncinphaaGreatDoor
open Go.RowKit
open Go.Lib (hid)

theorem wpow10_of {z : Int} (h : z.natAbs < 10 ^ 60) : z.natAbs < wpow 10 := Nat.lt_of_lt_of_le h (by unfold wpow; decide)

theorem IsZero_t {z e : Int} (h : z = 0) (x : Value) (W : World) (hx : SFr W x (dnum z e) (dden e)) : Calls Tryz.prog 21 #[x] W (fun r w' => r = .returned (.bool true) ∧ Fresh W w') := by
 have := IsZero_any x _ _ W hx
 rwa [decide_eq_true (dnum_zero.2 h)] at this

theorem IsZero_f {z e : Int} (h : z ≠ 0) (x : Value) (W : World) (hx : SFr W x (dnum z e) (dden e)) : Calls Tryz.prog 21 #[x] W (fun r w' => r = .returned (.bool false) ∧ Fresh W w') := by
 have := IsZero_any x _ _ W hx
 rwa [decide_eq_false (fun hh => h (dnum_zero.1 hh))] at this

theorem dec300 {z : Int} (h : z.natAbs < 10 ^ 60) : (wdig z).length ≤ 300 := Nat.le_trans (wdig_len_le h (by omega)) (by omega)

theorem qA_ltP {z e : Int} {P : Nat} (hz : z.natAbs < 10 ^ 60) (he : e.toNat + 60 ≤ P) : (qA z e).natAbs < 10 ^ P := by
 rw [qA_abs]
 exact scaledP_lt (d := e) hz he

theorem tdiv_ltP {a b : Int} {P : Nat} (h : a.natAbs < 10 ^ P) : (a.tdiv b).natAbs < 10 ^ P := by
 rw [Int.natAbs_tdiv]
 exact Nat.lt_of_le_of_lt (Nat.div_le_self _ _) h

theorem tmod_ltP {a b : Int} {P : Nat} (h : a.natAbs < 10 ^ P) : (a.tmod b).natAbs < 10 ^ P := by
 rw [tmod_abs]
 exact Nat.lt_of_le_of_lt (Nat.mod_le _ _) h

theorem FracDiv_dec {z1 e1 z2 e2 : Int} (hz1 : z1.natAbs < 10 ^ 60) (he1 : -60 ≤ e1 ∧ e1 ≤ 60) (hz2 : z2.natAbs < 10 ^ 60) (he2 : -60 ≤ e2 ∧ e2 ≤ 60) (x y : Value) (W : World) (hx : SFr W x (dnum z1 e1) (dden e1)) (hy : SFr W y (dnum z2 e2) (dden e2)) :
 Calls Tryz.prog 22 #[x, y] W (FRet W (qN z1 e1 z2 e2) (dden e1 * (dnum z2 e2).natAbs)) :=
 FracDiv_any x y _ _ _ _ W hx hy (spow_of_ten (dnum_lt hz1 he1.2) (by omega)) (spow_of_ten (dnum_lt hz2 he2.2) (by omega)) (dden_lt (by omega) (by omega)) (dden_lt (by omega) (by omega))

end Go.Proofs.YtllencgncinphaaGreatDoor
