/- Plain arithmetic of dividing two words by one. -/
import Derived.Test.YtmgidnjpkbgmgabGreatDoorKB1
namespace Go.Proofs.YtmgidnjpkbgmgabGreatDoor
open Go.RowKit

theorem mg_eq {B d k V X1 X0 q f : Nat} (hV : V * d + k = B * B) (hd : d ≤ B) (hq : q * B + f = V * X1 + X0) :
    d * q * B + (X1 * k + X0 * (B - d) + d * f) = (X1 * B + X0) * B := by
  obtain ⟨m, hm⟩ : ∃ m, B = d + m := ⟨B - d, by omega⟩
  rw [show B - d = m by omega]
  grind

theorem mg_bound {B d k V X1 X0 q f : Nat} (hV : V * d + k = B * B) (hk : k ≤ d) (hd : d ≤ B) (hd0 : 0 < d) (h1 : X1 < d) (h0 : X0 < B) (hq : q * B + f = V * X1 + X0) (hf : f < B) :
    d * q ≤ X1 * B + X0 ∧ X1 * B + X0 < d * q + (B + d) := by
  have e := mg_eq hV hd hq
  have hB : 0 < B := by omega
  constructor
  · exact Nat.le_of_mul_le_mul_right (by omega) hB
  · refine Nat.lt_of_mul_lt_mul_right (a := B) ?_
    rw [← e, Nat.add_mul, Nat.add_mul]
    have a1 : X1 * k ≤ (d - 1) * d := Nat.mul_le_mul (by omega) hk
    have a2 : X0 * (B - d) ≤ (B - 1) * (B - d) := Nat.mul_le_mul_right _ (by omega)
    have a3 : d * f ≤ d * (B - 1) := Nat.mul_le_mul_left _ (by omega)
    obtain ⟨m, hm⟩ : ∃ m, B = d + m := ⟨B - d, by omega⟩
    obtain ⟨p, hp⟩ : ∃ p, d = p + 1 := ⟨d - 1, by omega⟩
    subst hm
    subst hp
    rw [show p + 1 - 1 = p by omega] at a1
    rw [show p + 1 + m - (p + 1) = m by omega, show p + 1 + m - 1 = p + m by omega] at a2
    rw [show p + 1 + m - 1 = p + m by omega] at a3
    rw [show p + 1 + m - (p + 1) = m by omega]
    have b1 : p * (p + 1) = p * p + p := by grind
    have b2 : (p + m) * m = p * m + m * m := by grind
    have b3 : (p + 1) * (p + m) = p * p + p * m + p + m := by grind
    have b4 : (p + 1 + m) * (p + 1 + m) = p * p + m * m + 2 * (p * m) + 2 * p + 2 * m + 1 := by grind
    have b5 : (p + 1) * (p + 1 + m) = p * p + p * m + 2 * p + m + 1 := by grind
    omega

/-- the guess is put right at most twice -/
theorem mg_fix {B d q X r : Nat} (hX : X = d * q + r) (hr : r < B + d) (hB : B ≤ 2 * d) (hd : d ≤ B) (h0 : 0 < d) :
    ∃ q' r' q'' r'', ((B ≤ r ∧ q' = q + 1 ∧ r' = r - d) ∨ (r < B ∧ q' = q ∧ r' = r)) ∧ r' < B ∧ ((d ≤ r' ∧ q'' = q' + 1 ∧ r'' = r' - d) ∨ (r' < d ∧ q'' = q' ∧ r'' = r')) ∧ X = d * q'' + r'' ∧ r'' < d := by
  have e1 : d * (q + 1) = d * q + d := by rw [Nat.mul_add, Nat.mul_one]
  have e2 : d * (q + 1 + 1) = d * q + d + d := by rw [Nat.mul_add, e1, Nat.mul_one]
  by_cases h : B ≤ r
  · by_cases h2 : d ≤ r - d
    · exact ⟨q + 1, r - d, q + 1 + 1, r - d - d, .inl ⟨h, rfl, rfl⟩, by omega, .inl ⟨h2, rfl, rfl⟩, by omega, by omega⟩
    · exact ⟨q + 1, r - d, q + 1, r - d, .inl ⟨h, rfl, rfl⟩, by omega, .inr ⟨by omega, rfl, rfl⟩, by omega, by omega⟩
  · by_cases h2 : d ≤ r
    · exact ⟨q, r, q + 1, r - d, .inr ⟨by omega, rfl, rfl⟩, by omega, .inl ⟨h2, rfl, rfl⟩, by omega, by omega⟩
    · exact ⟨q, r, q, r, .inr ⟨by omega, rfl, rfl⟩, by omega, .inr ⟨by omega, rfl, rfl⟩, by omega, by omega⟩

/-- one half digit of a quotient (Knuth): y = y1 * b + y0 with y1 at least half of b; the guess q of U = u * b + u1, u < y -/
theorem kn_start {b y1 y0 u q rh : Nat} (hy0 : y0 < b) (hb : b ≤ 2 * y1) (hu : u < y1 * b + y0) (hq : q * y1 + rh = u) : q ≤ b + 1 := by
  rcases Nat.lt_or_ge (b + 1) q with h | h
  · exfalso
    have h1 : (b + 2) * y1 ≤ q * y1 := Nat.mul_le_mul_right _ (by omega)
    have h2 : (b + 2) * y1 = y1 * b + 2 * y1 := by rw [Nat.add_mul, Nat.mul_comm b]
    omega
  · exact h

/-- the guess is too great as long as it is put right -/
theorem kn_great {b y1 y0 u u1 q rh Q : Nat} (hq : q * y1 + rh = u) (hQ : Q * (y1 * b + y0) ≤ u * b + u1) (hQ2 : Q < b) (h : b ≤ q ∨ b * rh + u1 < q * y0) : Q ≤ q - 1 := by
  rcases h with h | h
  · omega
  · have h1 : u * b + u1 < q * (y1 * b + y0) := by
      have : q * (y1 * b + y0) = (q * y1 + rh) * b - b * rh + q * y0 := by
        have : (q * y1 + rh) * b = q * (y1 * b) + b * rh := by rw [Nat.add_mul, Nat.mul_assoc, Nat.mul_comm rh]
        rw [this, Nat.add_sub_cancel, Nat.mul_add]
      have h2 : (q * y1 + rh) * b = q * (y1 * b) + b * rh := by rw [Nat.add_mul, Nat.mul_assoc, Nat.mul_comm rh]
      rw [← hq]
      omega
    have h3 : Q < q := by
      rcases Nat.lt_or_ge Q q with h4 | h4
      · exact h4
      · exfalso
        have h5 := Nat.mul_le_mul_right (y1 * b + y0) h4
        omega
    omega

/-- where it ends it is not too great -/
theorem kn_end {b y1 y0 u u1 q rh : Nat} (hq : q * y1 + rh = u) (h : q * y0 ≤ b * rh + u1) : q * (y1 * b + y0) ≤ u * b + u1 := by
  have h2 : (q * y1 + rh) * b = q * (y1 * b) + b * rh := by rw [Nat.add_mul, Nat.mul_assoc, Nat.mul_comm rh]
  rw [← hq, h2, Nat.mul_add]
  omega

theorem kn_far {b y0 q rh u1 : Nat} (hy0 : y0 < b) (hq : q ≤ b) (hr : b ≤ rh) : q * y0 ≤ b * rh + u1 := by
  have h1 : q * y0 ≤ b * b := Nat.mul_le_mul hq (by omega)
  have h2 : b * b ≤ b * rh := Nat.mul_le_mul_left _ hr
  omega

theorem kn_is {Y U q Q : Nat} (hY : 0 < Y) (hQ : Q = U / Y) (h1 : Q ≤ q) (h2 : q * Y ≤ U) : q = Q := by
  have : q ≤ U / Y := by rw [Nat.le_div_iff_mul_le hY]; exact h2
  omega

end Go.Proofs.YtmgidnjpkbgmgabGreatDoor
