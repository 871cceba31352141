/- The plain law of long division by words (Knuth's algorithm D): what a guessed digit comes to. No program is in sight. -/
import Derived.Test.YtmgidnjpkbgmgabGreatDoorKB19
import Derived.Test.YtmgidnjpkbgmgabGreatDoorKB33
namespace Go.Proofs.YtmgidnjpkbgmgabGreatDoor
open Go.RowKit

/-- the first digit of what is divided is at most that of the divisor -/
theorem kd_top {b v1 v2 p vr V u0 u1 u2 ur U : Nat} (hV : V = (v1 * b + v2) * p + vr) (hvr : vr < p) (hv2 : v2 < b) (hU : U = ((u0 * b + u1) * b + u2) * p + ur) (hlt : U < V * b) : u0 ≤ v1 := by
  rcases Nat.lt_or_ge v1 u0 with h | h
  · exfalso
    have hb : 0 < b := by omega
    have a1 : (v1 + 1) * b * b * p ≤ ((u0 * b + u1) * b + u2) * p := Nat.mul_le_mul_right p (by
      have h1 := Nat.mul_le_mul_right b (Nat.mul_le_mul_right b (show v1 + 1 ≤ u0 from h))
      have h2 := Nat.mul_le_mul_right b (Nat.le_add_right (u0 * b) u1)
      omega)
    have a2 : V < (v1 * b + v2 + 1) * p := by rw [hV, Nat.add_mul (v1 * b + v2) 1 p]; omega
    have a3 : (v1 * b + v2 + 1) * p * b ≤ (v1 + 1) * b * p * b := Nat.mul_le_mul_right b (Nat.mul_le_mul_right p (by rw [Nat.add_mul, Nat.one_mul]; omega))
    have a4 := Nat.mul_lt_mul_of_pos_right a2 hb
    have a5 : (v1 + 1) * b * p * b = (v1 + 1) * b * b * p := Nat.mul_right_comm _ _ _
    omega
  · exact h

/-- the greatest digit is guessed: at most one too great -/
theorem kd_max {b v1 v2 p vr V u1 u2 ur U : Nat} (hV : V = (v1 * b + v2) * p + vr) (hvr : vr < p) (hv2 : v2 < b) (hb : b ≤ 2 * v1) (hU : U = ((v1 * b + u1) * b + u2) * p + ur) (hlt : U < V * b) :
    U / V ≤ b - 1 ∧ b - 1 ≤ U / V + 1 := by
  have hb0 : 0 < b := by omega
  have hp : 0 < p := by omega
  have hvp : 0 < v1 := by omega
  have hV0 : 0 < V := by
    rw [hV]
    have : 1 * 1 ≤ (v1 * b + v2) * p := Nat.mul_le_mul (by have := Nat.mul_le_mul hvp hb0; omega) hp
    omega
  constructor
  · have : U / V < b := by rw [Nat.div_lt_iff_lt_mul hV0, Nat.mul_comm]; exact hlt
    exact Nat.le_sub_one_of_lt this
  · rcases Nat.lt_or_ge b 2 with h | h
    · generalize U / V = x; omega
    · obtain ⟨c, rfl⟩ : ∃ c, b = c + 2 := ⟨b - 2, by omega⟩
      have a2 : V ≤ (v1 + 1) * (c + 2) * p := by
        have h1 : V < (v1 * (c + 2) + v2 + 1) * p := by rw [hV, Nat.add_mul (v1 * (c + 2) + v2) 1 p]; omega
        have h2 : (v1 * (c + 2) + v2 + 1) * p ≤ (v1 + 1) * (c + 2) * p := Nat.mul_le_mul_right p (by rw [Nat.add_mul, Nat.one_mul]; omega)
        omega
      have a3 : c * (v1 + 1) ≤ v1 * (c + 2) := by
        rw [Nat.mul_add, Nat.mul_add, Nat.mul_comm c v1]; omega
      have a4 : c * V ≤ v1 * (c + 2) * ((c + 2) * p) := by
        have h1 := Nat.mul_le_mul_left c a2
        have h2 : c * ((v1 + 1) * (c + 2) * p) = c * (v1 + 1) * ((c + 2) * p) := by rw [Nat.mul_assoc (v1 + 1), Nat.mul_assoc]
        have h3 := Nat.mul_le_mul_right ((c + 2) * p) a3
        omega
      have a5 : v1 * (c + 2) * ((c + 2) * p) ≤ U := by
        have h1 : v1 * (c + 2) * ((c + 2) * p) = v1 * (c + 2) * (c + 2) * p := by rw [← Nat.mul_assoc]
        have h2 : v1 * (c + 2) * (c + 2) * p ≤ ((v1 * (c + 2) + u1) * (c + 2) + u2) * p := Nat.mul_le_mul_right p (by
          have := Nat.mul_le_mul_right (c + 2) (Nat.le_add_right (v1 * (c + 2)) u1)
          omega)
        omega
      have : c ≤ U / V := by rw [Nat.le_div_iff_mul_le hV0]; omega
      exact Nat.succ_le_succ this

/-- a digit guessed by three digits over two: at most one too great -/
theorem kd_three {b V2 p vr V U3 ur U q : Nat} (hV : V = V2 * p + vr) (hvr : vr < p) (hV2 : b ≤ V2) (hU : U = U3 * p + ur) (hur : ur < p) (h1 : U3 / V2 ≤ q) (h2 : q * V2 ≤ U3) (hq : q < b) :
    U / V ≤ q ∧ q ≤ U / V + 1 := by
  have hb0 : 0 < b := by omega
  have hV20 : 0 < V2 := by omega
  have hp : 0 < p := by omega
  have hV0 : 0 < V := by
    have : 1 * 1 ≤ V2 * p := Nat.mul_le_mul hV20 hp
    omega
  constructor
  · have e1 : U3 < (q + 1) * V2 := by
      have := Nat.lt_mul_of_div_lt (show U3 / V2 < q + 1 by omega) hV20
      exact this
    have e2 : (U3 + 1) * p ≤ (q + 1) * V2 * p := Nat.mul_le_mul_right p e1
    have e3 : (q + 1) * V2 * p ≤ (q + 1) * V := by rw [Nat.mul_assoc, hV]; exact Nat.mul_le_mul_left _ (by omega)
    have e4 : U < (U3 + 1) * p := by rw [hU, Nat.add_mul]; omega
    have : U / V < q + 1 := by rw [Nat.div_lt_iff_lt_mul hV0]; omega
    exact Nat.le_of_lt_succ this
  · rcases Nat.eq_zero_or_pos q with h | h
    · rw [h]; exact Nat.zero_le _
    · obtain ⟨c, rfl⟩ : ∃ c, q = c + 1 := ⟨q - 1, by omega⟩
      have e1 : (c + 1) * V2 * p ≤ U := by
        have := Nat.mul_le_mul_right p h2
        omega
      have e2 : (c + 1) * V = (c + 1) * V2 * p + (c + 1) * vr := by rw [hV, Nat.mul_add, Nat.mul_assoc]
      have e3 : (c + 1) * vr ≤ b * p := Nat.mul_le_mul (by omega) (by omega)
      have e4 : b * p ≤ V2 * p := Nat.mul_le_mul_right p hV2
      have e5 : (c + 1) * V = c * V + V := by rw [Nat.add_mul, Nat.one_mul]
      have : c ≤ U / V := by rw [Nat.le_div_iff_mul_le hV0]; omega
      exact Nat.succ_le_succ this

theorem val_snoc (l : List Nat) (x : Nat) : val (l ++ [x]) = val l + wpow l.length * x := by
  rw [val_append]; simp [val]

/-- the last of n + 1 words, split off -/
theorem last_split {D : List Nat} {n : Nat} (h : D.length = n + 1) : D = D.take n ++ [D.getD n 0] ∧ (D.take n).length = n := by
  refine ⟨?_, by simp; omega⟩
  have := List.take_succ_eq_append_getElem (l := D) (i := n) (by omega)
  rw [List.take_of_length_le (by omega)] at this
  rw [show D.getD n 0 = D[n] by simp [List.getD, h]]
  exact this

/-- words whose worth is below that of n words: the word behind them is 0 -/
theorem top_zero {D : List Nat} {n : Nat} (h : D.length = n + 1) (hv : val D < wpow n) : D = D.take n ++ [0] ∧ val (D.take n) = val D := by
  obtain ⟨e, hl⟩ := last_split h
  have e2 : val D = val (D.take n) + wpow n * D.getD n 0 := by
    have := val_snoc (D.take n) (D.getD n 0)
    rw [← e, hl] at this; exact this
  have h0 : D.getD n 0 = 0 := by
    rcases Nat.eq_zero_or_pos (D.getD n 0) with h | h
    · exact h
    · have : wpow n * 1 ≤ wpow n * D.getD n 0 := Nat.mul_le_mul_left _ h
      omega
  rw [h0] at e e2
  exact ⟨e, by omega⟩

/-- the product of the divisor with the guessed digit, n + 1 words -/
def kdP (v : List Nat) (q : Nat) : List Nat := (mulVs v q 0).1 ++ [(mulVs v q 0).2]

theorem kdP_length (v : List Nat) (q : Nat) : (kdP v q).length = v.length + 1 := by simp [kdP, mulVs_length]

theorem kdP_val (v : List Nat) (q : Nat) : val (kdP v q) = val v * q := by
  have := mulVs_val v q 0
  rw [kdP, val_snoc, mulVs_length]; omega

theorem kdP_lt {v : List Nat} {q : Nat} (hv : ∀ a ∈ v, a < 18446744073709551616) (hq : q < 18446744073709551616) : ∀ a ∈ kdP v q, a < 18446744073709551616 := by
  intro a ha
  simp only [kdP, List.mem_append, List.mem_singleton] at ha
  rcases ha with ha | rfl
  · exact mulVs_lt v q 0 a ha
  · exact mulVs_carry v q 0 hv hq (by omega)

/-- no borrow: the digit is right, and what is left stands in n words -/
theorem kd_fine {v W : List Nat} {n q : Nat} (hW : W.length = n + 1) (hv : v.length = n) (hWb : ∀ a ∈ W, a < 18446744073709551616) (hvb : ∀ a ∈ v, a < 18446744073709551616) (hqb : q < 18446744073709551616)
    (h0 : 0 < val v) (h1 : val W / val v ≤ q) (hc : (subVs W (kdP v q) 0).2 = 0) :
    q = val W / val v ∧ (subVs W (kdP v q) 0).1 = (subVs W (kdP v q) 0).1.take n ++ [0] ∧ val ((subVs W (kdP v q) 0).1.take n) = val W % val v := by
  have hl := subVs_length W (kdP v q) 0 (by rw [hW, kdP_length, hv])
  have e := subVs_val W (kdP v q) 0 (by rw [hW, kdP_length, hv]) hWb (kdP_lt hvb hqb) (by omega)
  rw [hc, kdP_val] at e
  generalize (subVs W (kdP v q) 0).1 = D at *
  have hq : q = val W / val v := by
    have : q ≤ val W / val v := by rw [Nat.le_div_iff_mul_le h0, Nat.mul_comm]; omega
    omega
  have hd := Nat.div_add_mod (val W) (val v)
  rw [← hq] at hd
  have hm := Nat.mod_lt (val W) h0
  have hvl := val_lt hvb
  rw [hv] at hvl
  have hD : val D = val W % val v := by omega
  obtain ⟨t1, t2⟩ := top_zero (n := n) (by rw [hl, hW]) (by omega)
  exact ⟨hq, t1, by rw [t2, hD]⟩

/-- a borrow: the digit is one too great; the divisor, added back, puts it right -/
theorem kd_back {v W : List Nat} {n q : Nat} (hW : W.length = n + 1) (hv : v.length = n) (hWb : ∀ a ∈ W, a < 18446744073709551616) (hvb : ∀ a ∈ v, a < 18446744073709551616) (hqb : q < 18446744073709551616)
    (h0 : 0 < val v) (h2 : q ≤ val W / val v + 1) (hc : (subVs W (kdP v q) 0).2 = 1) :
    q = val W / val v + 1 ∧ val (addVs ((subVs W (kdP v q) 0).1.take n) v 0).1 = val W % val v ∧
      ((subVs W (kdP v q) 0).1.getD n 0 + (addVs ((subVs W (kdP v q) 0).1.take n) v 0).2) % 18446744073709551616 = 0 := by
  have hl := subVs_length W (kdP v q) 0 (by rw [hW, kdP_length, hv])
  have hDb := subVs_lt W (kdP v q) 0
  have e := subVs_val W (kdP v q) 0 (by rw [hW, kdP_length, hv]) hWb (kdP_lt hvb hqb) (by omega)
  rw [hc, kdP_val] at e
  generalize (subVs W (kdP v q) 0).1 = D at *
  obtain ⟨hs, hsl⟩ := last_split (show D.length = n + 1 by rw [hl, hW])
  have hDv := val_lt hDb
  rw [hl, hW] at hDv
  rw [hW] at e
  have hq : q = val W / val v + 1 := by
    rcases Nat.lt_or_ge q (val W / val v + 1) with h | h
    · exfalso
      have h3 : q * val v ≤ val W := by
        rw [← Nat.le_div_iff_mul_le h0]; omega
      rw [Nat.mul_comm] at h3
      omega
    · omega
  have hd := Nat.div_add_mod (val W) (val v)
  have hm := Nat.mod_lt (val W) h0
  have hvl := val_lt hvb
  rw [hv] at hvl
  have ea := addVs_val (D.take n) v 0 (by rw [hsl, hv])
  have hal := addVs_lt (D.take n) v 0
  have hall := addVs_length (D.take n) v 0 (by rw [hsl, hv])
  rw [hsl] at hall ea
  have hSv := val_lt hal
  rw [hall] at hSv
  have hDs : val D = val (D.take n) + wpow n * D.getD n 0 := by
    have := val_snoc (D.take n) (D.getD n 0)
    rw [← hs, hsl] at this; exact this
  have hDn : D.getD n 0 < 18446744073709551616 := getD_lt hDb pos64 n
  generalize (addVs (D.take n) v 0).1 = S at *
  generalize hc2 : (addVs (D.take n) v 0).2 = c2 at *
  have hc1 : c2 ≤ 1 := by rw [← hc2]; exact addVs_carry _ _ _ (fun a ha => hDb a (List.mem_of_mem_take ha)) hvb (by omega)
  generalize D.getD n 0 = t at *
  generalize val (D.take n) = d at *
  have hw := wpow_succ n
  have hsum : val S + wpow n * (c2 + t) = wpow n * 18446744073709551616 + val W % val v := by
    rw [Nat.mul_add]
    have : val v * q = val v * (val W / val v) + val v := by rw [hq, Nat.mul_add, Nat.mul_one]
    rw [Nat.mul_comm (wpow n) 18446744073709551616, ← hw]
    omega
  generalize val W % val v = r at *
  have hp := wpow_pos n
  have hct : c2 + t = 18446744073709551616 := by
    rcases Nat.lt_trichotomy (c2 + t) 18446744073709551616 with h | h | h
    · have : wpow n * (c2 + t + 1) ≤ wpow n * 18446744073709551616 := Nat.mul_le_mul_left _ h
      rw [Nat.mul_add, Nat.mul_one] at this
      omega
    · exact h
    · have : wpow n * (18446744073709551616 + 1) ≤ wpow n * (c2 + t) := Nat.mul_le_mul_left _ h
      rw [Nat.mul_add, Nat.mul_one] at this
      omega
  refine ⟨hq, ?_, ?_⟩
  · rw [hct] at hsum; omega
  · rw [Nat.add_comm, hct]

/-- one digit more of the quotient -/
theorem kd_next {x Q V : Nat} {R Qs : List Nat} (_hR : R.length = Qs.length ∨ True) (h : val (x :: R) / V = Q) (U' : Nat) (hU : U' = val Qs * V + val R) :
    x + 18446744073709551616 * U' = val (Q :: Qs) * V + val (x :: R) % V := by
  subst hU
  have hd := Nat.div_add_mod (val (x :: R)) V
  rw [h] at hd
  simp only [val] at *
  rw [Nat.add_mul, Nat.mul_add, Nat.mul_assoc]
  rw [Nat.mul_comm V Q] at hd
  omega

end Go.Proofs.YtmgidnjpkbgmgabGreatDoor
