/- The plain law of sums and products of two decimals: sign, coefficient, scale. -/
import Derived.Test.YtjdfapoomjeabaaGreatDoorK12
import Derived.Test.YtjdfapoomjeabaaGreatDoorK15
import Derived.Test.YtjdfapoomjeabaaGreatDoorK16
namespace Go.Proofs.YtjdfapoomjeabaaGreatDoor
open Go.RowKit

theorem good_zero {d c s : Nat} (hd : 0 < d) (h : Good 0 d c s) : c = 0 := by
  obtain ⟨_, _, h | ⟨_, h⟩⟩ := h
  · rw [Nat.zero_mul] at h
    rcases Nat.mul_eq_zero.1 h with h | h
    · exact h
    · omega
  · rw [h, Nat.zero_mul]
    exact rhe_exact hd (by rw [Nat.zero_mul])

theorem out_sign {z : Int} {neg : Bool} {c : Nat} (h1 : z < 0 → neg = true) (h2 : 0 < z → neg = false) (h3 : z = 0 → c = 0) : zfix (neg && decide (0 < c)) c = sgnN z c := by
  rw [zfix_canon]
  unfold zfix sgnN
  rcases Int.lt_trichotomy z 0 with h | h | h
  · rw [h1 h, if_pos rfl, if_pos h]
  · rw [h3 h]; cases neg <;> simp
  · rw [h2 h, if_neg (by simp), if_neg (by omega)]

/-- the coefficient of a sum of two amounts with signs -/
def sumC (m1 m2 : Bool) (a e : Nat) : Nat := if m1 = m2 then a + e else adf a e

/-- its sign -/
def sumS (m1 m2 : Bool) (a e : Nat) : Bool := if m1 = m2 then m1 else if a < e then m2 else m1

theorem add_abs (m1 m2 : Bool) (a e : Nat) : (zfix m1 a + zfix m2 e).natAbs = sumC m1 m2 a e := by
  unfold zfix sumC adf
  cases m1 <;> cases m2 <;> simp <;> (try split) <;> omega

theorem add_neg (m1 m2 : Bool) (a e : Nat) : (zfix m1 a + zfix m2 e < 0 → sumS m1 m2 a e = true) ∧ (0 < zfix m1 a + zfix m2 e → sumS m1 m2 a e = false) := by
  cases m1 <;> cases m2
  · have h1 : sumS false false a e = false := rfl
    have h2 : zfix false a = (a : Int) := rfl
    have h3 : zfix false e = (e : Int) := rfl
    rw [h1, h2, h3]
    exact ⟨fun h => by omega, fun _ => rfl⟩
  · have h1 : sumS false true a e = if a < e then true else false := rfl
    have h2 : zfix false a = (a : Int) := rfl
    have h3 : zfix true e = -(e : Int) := rfl
    rw [h1, h2, h3]
    exact ⟨fun h => if_pos (by omega), fun h => if_neg (by omega)⟩
  · have h1 : sumS true false a e = if a < e then false else true := rfl
    have h2 : zfix true a = -(a : Int) := rfl
    have h3 : zfix false e = (e : Int) := rfl
    rw [h1, h2, h3]
    exact ⟨fun h => if_neg (by omega), fun h => if_pos (by omega)⟩
  · have h1 : sumS true true a e = true := rfl
    have h2 : zfix true a = -(a : Int) := rfl
    have h3 : zfix true e = -(e : Int) := rfl
    rw [h1, h2, h3]
    exact ⟨fun _ => rfl, fun h => by omega⟩

theorem add_scaled (m1 m2 : Bool) (c1 s1 c2 s2 : Nat) : zfix m1 c1 * ((10 ^ s2 : Nat) : Int) + zfix m2 c2 * ((10 ^ s1 : Nat) : Int) = (zfix m1 (c1 * 10 ^ (s2 - s1)) + zfix m2 (c2 * 10 ^ (s1 - s2))) * ((10 ^ (min s1 s2) : Nat) : Int) := by
  rw [Int.add_mul, zfix_mul, zfix_mul, zfix_mul, zfix_mul]
  congr 2
  · rw [Nat.mul_assoc, ← Nat.pow_add]; congr 2; omega
  · rw [Nat.mul_assoc, ← Nat.pow_add]; congr 2; omega

theorem add_frac (m1 m2 : Bool) (c1 s1 c2 s2 : Nat) :
    (zfix m1 c1 * ((10 ^ s2 : Nat) : Int) + zfix m2 c2 * ((10 ^ s1 : Nat) : Int)).natAbs * 10 ^ (max s1 s2) = sumC m1 m2 (c1 * 10 ^ (s2 - s1)) (c2 * 10 ^ (s1 - s2)) * (10 ^ s1 * 10 ^ s2) := by
  rw [add_scaled, Int.natAbs_mul, add_abs, Int.natAbs_natCast, Nat.mul_assoc]
  congr 1
  rw [← Nat.pow_add, ← Nat.pow_add]
  congr 1
  omega

theorem add_sign (m1 m2 : Bool) (c1 s1 c2 s2 : Nat) :
    (zfix m1 c1 * ((10 ^ s2 : Nat) : Int) + zfix m2 c2 * ((10 ^ s1 : Nat) : Int) < 0 → sumS m1 m2 (c1 * 10 ^ (s2 - s1)) (c2 * 10 ^ (s1 - s2)) = true) ∧
    (0 < zfix m1 c1 * ((10 ^ s2 : Nat) : Int) + zfix m2 c2 * ((10 ^ s1 : Nat) : Int) → sumS m1 m2 (c1 * 10 ^ (s2 - s1)) (c2 * 10 ^ (s1 - s2)) = false) := by
  have hp : (0 : Int) < ((10 ^ (min s1 s2) : Nat) : Int) := by
    have : 0 < 10 ^ (min s1 s2) := Nat.pow_pos (by omega)
    omega
  rw [add_scaled]
  have h := add_neg m1 m2 (c1 * 10 ^ (s2 - s1)) (c2 * 10 ^ (s1 - s2))
  generalize zfix m1 (c1 * 10 ^ (s2 - s1)) + zfix m2 (c2 * 10 ^ (s1 - s2)) = z at *
  constructor
  · intro k
    refine h.1 ?_
    rcases Int.lt_or_le z 0 with h1 | h1
    · exact h1
    · have := Int.mul_nonneg h1 (Int.le_of_lt hp)
      omega
  · intro k
    refine h.2 ?_
    rcases Int.lt_or_le 0 z with h1 | h1
    · exact h1
    · have := Int.mul_nonneg (show 0 ≤ -z by omega) (Int.le_of_lt hp)
      rw [Int.neg_mul] at this
      omega

end Go.Proofs.YtjdfapoomjeabaaGreatDoor

/- What sums and products return: a decimal, and a fault or none. -/
namespace Go.Proofs.YtjdfapoomjeabaaGreatDoor
open Go.RowKit

/-- the call returns a decimal, and an error or none -/
def DOut (w : World) (nz : Bool) (sz cz : Nat) (Pv : Value → Prop) (e : Ending) (w' : World) : Prop := ∃ ev, e = .returned (.tuple #[gd nz sz cz, ev]) ∧ Pv ev ∧ Fresh w w'

def NoErr (v : Value) : Prop := v = .nilIface
def AnErr (v : Value) : Prop := ∃ a : Addr, v = .iface 91 (.pointer (some a))

theorem DOut.of_ok {w w' : World} {nz : Bool} {sz cz : Nat} {e : Ending} (h : VRet w (.tuple #[gd nz sz cz, .nilIface]) e w') : DOut w nz sz cz NoErr e w' := ⟨_, h.1, rfl, h.2⟩
theorem DOut.of_err {w w' : World} {e : Ending} (h : ClampErr w e w') : DOut w false 0 0 AnErr e w' := by
  obtain ⟨a, h1, h2⟩ := h
  exact ⟨_, h1, ⟨a, rfl⟩, h2⟩

/-- the decimal is a result for z / d with at least ms places -/
def ResOK (z : Int) (d ms : Nat) (nz : Bool) (sz cz : Nat) : Prop := Good z.natAbs d cz sz ∧ ms ≤ sz ∧ (nz = true → 0 < cz) ∧ zfix nz cz = sgnN z cz

theorem res_ok {z : Int} {d ms s c : Nat} {neg : Bool} (hd : 0 < d) (hg : Good z.natAbs d c s) (hms : ms ≤ s) (h1 : z < 0 → neg = true) (h2 : 0 < z → neg = false) : ResOK z d ms (neg && decide (0 < c)) s c :=
  ⟨hg, hms, fun h => canon_pos h, out_sign h1 h2 (fun h => good_zero hd (by rw [h] at hg; exact hg))⟩

theorem DOut.ok {w w' : World} {nz : Bool} {sz cz : Nat} {e : Ending} (h : DOut w nz sz cz NoErr e w') : VRet w (.tuple #[gd nz sz cz, .nilIface]) e w' := by
  obtain ⟨ev, h1, h2, h3⟩ := h
  exact ⟨by rw [h1, show ev = .nilIface from h2], h3⟩

theorem DOut.err {w w' : World} {e : Ending} (h : DOut w false 0 0 AnErr e w') : ClampErr w e w' := by
  obtain ⟨ev, h1, ⟨a, h2⟩, h3⟩ := h
  exact ⟨a, by rw [h1, h2], h3⟩

theorem sumS_same (m : Bool) (a e : Nat) : sumS m m a e = m := by unfold sumS; rw [if_pos rfl]
theorem sumC_same (m : Bool) (a e : Nat) : sumC m m a e = a + e := by unfold sumC; rw [if_pos rfl]
theorem sumS_less {m n : Bool} {a e : Nat} (h : m ≠ n) (hl : a < e) : sumS m n a e = n := by unfold sumS; rw [if_neg h, if_pos hl]
theorem sumS_more {m n : Bool} {a e : Nat} (h : m ≠ n) (hl : ¬ a < e) : sumS m n a e = m := by unfold sumS; rw [if_neg h, if_neg hl]
theorem sumC_diff {m n : Bool} {a e : Nat} (h : m ≠ n) : sumC m n a e = adf a e := by unfold sumC; rw [if_neg h]
theorem adf_le {a e b : Nat} (h1 : a ≤ b) (h2 : e ≤ b) : adf a e ≤ b := by unfold adf; split <;> omega

end Go.Proofs.YtjdfapoomjeabaaGreatDoor
