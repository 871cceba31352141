/- The contracts of the reference: Dec.Trim (the exponent that is left). -/
import Derived.Test.YtmgidnjpkbgmgabGreatDoorKB5
import Derived.Test.YtmgidnjpkbgmgabGreatDoorKB12
namespace Go.Proofs.YtmgidnjpkbgmgabGreatDoor
open Go.RowKit

end Go.Proofs.YtmgidnjpkbgmgabGreatDoor

/- FnFixMinScale's walk. -/
namespace Go.Proofs.YtmgidnjpkbgmgabGreatDoor
open Go.RowKit

end Go.Proofs.YtmgidnjpkbgmgabGreatDoor

/- govalues: fint.rshDown, Decimal.Trunc, Decimal.Trim. -/
namespace Go.Proofs.YtmgidnjpkbgmgabGreatDoor
open Go.RowKit

end Go.Proofs.YtmgidnjpkbgmgabGreatDoor

/- The plain law of a quotient that is cut off at 41 places and then rounded half to even: as if it had been rounded at once. -/
namespace Go.Proofs.YtmgidnjpkbgmgabGreatDoor
open Go.RowKit

theorem rhe_trunc {X D H : Nat} (hD : 0 < D) (hK : D ≤ H) : rhe (X * (2 * H) / D) (2 * H) = rhe X D := by
  have hr := Nat.mod_lt X hD
  have hx := Nat.div_add_mod X D
  obtain ⟨q, hq⟩ : ∃ q, q = X / D := ⟨_, rfl⟩
  obtain ⟨r, hrr⟩ : ∃ r, r = X % D := ⟨_, rfl⟩
  rw [← hq, ← hrr] at hx
  rw [← hrr] at hr
  obtain ⟨f, hf⟩ : ∃ f, f = r * (2 * H) / D := ⟨_, rfl⟩
  have e1 : X * (2 * H) / D = q * (2 * H) + f := by
    rw [← hx, hf, Nat.add_mul, Nat.mul_assoc, Nat.mul_add_div hD]
  have f1 : f * D ≤ r * (2 * H) := by rw [hf]; exact Nat.div_mul_le_self _ _
  have f2 : r * (2 * H) < (f + 1) * D := by rw [hf, Nat.mul_comm (_ + 1) D]; exact Nat.lt_mul_div_succ _ hD
  have hfl : f < 2 * H := by
    have h1 : r * (2 * H) < D * (2 * H) := Nat.mul_lt_mul_of_pos_right hr (by omega)
    have h2 : f * D < 2 * H * D := by rw [Nat.mul_comm (2 * H) D]; omega
    exact Nat.lt_of_mul_lt_mul_right h2
  have e2 : (q * (2 * H) + f) / (2 * H) = q := by
    rw [Nat.mul_comm q, Nat.mul_add_div (by omega), Nat.div_eq_of_lt hfl]; omega
  have e3 : (q * (2 * H) + f) % (2 * H) = f := by
    rw [Nat.mul_comm q, Nat.mul_add_mod, Nat.mod_eq_of_lt hfl]
  unfold rhe
  rw [e1, e2, e3, ← hq, ← hrr]
  have k1 : r * (2 * H) = 2 * (r * H) := by rw [Nat.mul_left_comm]
  rw [k1] at f1 f2
  have a1 : (2 * H < 2 * f) ↔ (D < 2 * r) := by
    constructor
    · intro h
      have h1 : (H + 1) * D ≤ f * D := Nat.mul_le_mul_right D (by omega)
      rw [Nat.add_mul, Nat.one_mul, Nat.mul_comm H D] at h1
      have h2 : D * H < 2 * r * H := by rw [Nat.mul_assoc]; omega
      exact Nat.lt_of_mul_lt_mul_right h2
    · intro h
      have h1 : (D + 1) * H ≤ 2 * r * H := Nat.mul_le_mul_right H (by omega)
      rw [Nat.add_mul, Nat.one_mul, Nat.mul_assoc] at h1
      have h2 : (H + 1) * D < (f + 1) * D := by rw [Nat.add_mul, Nat.one_mul, Nat.mul_comm H D]; omega
      have h3 := Nat.lt_of_mul_lt_mul_right h2
      omega
  have a2 : (2 * f = 2 * H) ↔ (2 * r = D) := by
    constructor
    · intro h
      have hfe : f = H := by omega
      subst hfe
      have h0 : ¬ D < 2 * r := fun h => by have := a1.2 h; omega
      have h1 : D * f ≤ 2 * r * f := by rw [Nat.mul_assoc, Nat.mul_comm D f]; exact f1
      have h2 := Nat.le_of_mul_le_mul_right h1 (by omega)
      omega
    · intro h
      have h0 : ¬ 2 * H < 2 * f := fun h' => by have := a1.1 h'; omega
      have h1 : H * D < (f + 1) * D := by
        have : 2 * (r * H) = D * H := by rw [← Nat.mul_assoc, h]
        rw [Nat.mul_comm H D]
        omega
      have h2 := Nat.lt_of_mul_lt_mul_right h1
      omega
  simp only [a1, a2]

/-- cut off at 41 places, rounded k places before that: as if rounded at once -/
theorem quo_rhe {c1 s1 c2 s2 k : Nat} (hs1 : s1 ≤ 19) (hc20 : 0 < c2) (hc2 : c2 ≤ 9999999999999999999) (hk : 22 ≤ k) (hk2 : k ≤ 41) :
    rhe (c1 * 10 ^ s2 * 10 ^ (41 - k)) (10 ^ s1 * c2) = rhe (c1 * 10 ^ s2 * 10 ^ 41 / (10 ^ s1 * c2)) (10 ^ k) := by
  obtain ⟨m, hm⟩ : ∃ m, m = min (s2 + (41 - k)) s1 := ⟨_, rfl⟩
  have hp : 0 < 10 ^ m := Nat.pow_pos (by omega)
  have e1 : c1 * 10 ^ s2 * 10 ^ (41 - k) = c1 * 10 ^ (s2 + (41 - k) - m) * 10 ^ m := by
    rw [Nat.mul_assoc, Nat.mul_assoc, ← Nat.pow_add, ← Nat.pow_add]; congr 2; omega
  have e2 : 10 ^ s1 * c2 = c2 * 10 ^ (s1 - m) * 10 ^ m := by
    rw [Nat.mul_assoc, ← Nat.pow_add, Nat.mul_comm]; congr 2; omega
  have e3 : c1 * 10 ^ s2 * 10 ^ 41 = c1 * 10 ^ (s2 + (41 - k) - m) * 10 ^ k * 10 ^ m := by
    rw [show 10 ^ 41 = 10 ^ (41 - k) * 10 ^ k by rw [← Nat.pow_add]; congr 1; omega, ← Nat.mul_assoc, e1, Nat.mul_right_comm]
  rw [e1, e2, rhe_mul hp, e3, Nat.mul_div_mul_right _ _ hp]
  generalize c1 * 10 ^ (s2 + (41 - k) - m) = X
  obtain ⟨j, hj⟩ : ∃ j, k = j + 1 := ⟨k - 1, by omega⟩
  have hk5 : 10 ^ k = 2 * (5 * 10 ^ j) := by rw [hj, Nat.pow_succ]; omega
  rw [hk5]
  refine (rhe_trunc (Nat.mul_pos hc20 (Nat.pow_pos (by omega))) ?_).symm
  have h1 : c2 * 10 ^ (s1 - m) ≤ 10 ^ 19 * 10 ^ (s1 - m) := Nat.mul_le_mul_right _ (Nat.le_trans hc2 (by decide))
  rw [← Nat.pow_add] at h1
  have h2 : 10 ^ (19 + (s1 - m)) ≤ 10 ^ j := Nat.pow_le_pow_right (by omega) (by omega)
  omega

theorem shift_geT {N d C S n m : Nat} (h : C * d ≤ N * 10 ^ S) (hd : 0 < d) (hC : 10 ^ (m + S) ≤ C * 10 ^ n) : 10 ^ m ≤ rhe (N * 10 ^ n) d := by
  refine Nat.le_trans ?_ (rhe_ge _ _)
  rw [Nat.le_div_iff_mul_le hd]
  have hp : 0 < 10 ^ S := Nat.pow_pos (by omega)
  refine Nat.le_of_mul_le_mul_right ?_ hp
  have e1 : N * 10 ^ n * 10 ^ S = N * 10 ^ S * 10 ^ n := by rw [Nat.mul_right_comm]
  have e2 : 10 ^ m * d * 10 ^ S = 10 ^ (m + S) * d := by rw [Nat.pow_add, Nat.mul_right_comm]
  rw [e1, e2]
  refine Nat.le_trans (Nat.mul_le_mul_right _ hC) ?_
  rw [Nat.mul_right_comm]
  exact Nat.mul_le_mul_right _ h

section
variable {N d C p ms : Nat}

theorem nbT_none (h : C * d ≤ N * 10 ^ 41) (hd : 0 < d) (hp : IsPrec C p) (hms : ms ≤ 19) (hlt : 60 < p + ms) : ¬ okN N d ms := by
  have h1 := hp.2 (by omega)
  have h2 : 10 ^ 19 ≤ rhe (N * 10 ^ ms) d := shift_geT h hd (by
    refine Nat.le_trans ?_ (Nat.mul_le_mul_right _ h1)
    rw [← Nat.pow_add]
    exact Nat.pow_le_pow_right (by omega) (by omega))
  unfold okN
  omega

theorem nbStepT_some {c s : Nat} (h : C * d ≤ N * 10 ^ 41) (hr : ∀ k, 22 ≤ k → k ≤ 41 → rhe (N * 10 ^ (41 - k)) d = rhe C (10 ^ k)) (hd : 0 < d) (hp : IsPrec C p) (hms : ms ≤ 19) (hn : nbStep C p 41 ms = some (c, s)) :
    ms ≤ s ∧ s ≤ 19 ∧ c ≤ 10000000000000000000 ∧ (c < 10000000000000000000 → Good N d c s) ∧ (c = 10000000000000000000 → rhe (N * 10 ^ s) d = 10000000000000000000) := by
  unfold nbStep at hn
  split at hn
  · cases hn
  · rename_i h0
    rw [if_neg (by omega)] at hn
    split at hn
    · rename_i h2
      cases hn
      have e := hr 22 (by omega) (by omega)
      have hC : C < 10 ^ 41 := hp.lt_iff.2 h2.1
      have hle : rhe C (10 ^ (41 - 19)) ≤ 10 ^ 19 := by
        refine Nat.le_trans (rhe_le _ _) ?_
        have : C / 10 ^ (41 - 19) < 10 ^ 19 := by
          rw [Nat.div_lt_iff_lt_mul (Nat.pow_pos (by omega)), ← Nat.pow_add]
          exact hC
        omega
      refine ⟨hms, Nat.le_refl _, by omega, fun hc => ⟨by omega, by omega, .inr ⟨⟨by omega, ?_, .inl rfl⟩, e.symm⟩⟩, fun hc => by rw [e]; exact hc⟩
      unfold okN
      rw [e]
      exact hc
    · rename_i h2
      rw [if_pos (by omega)] at hn
      cases hn
      have e := hr (p - 19) (by omega) (by omega)
      rw [show 41 - (p - 19) = 19 + 41 - p by omega] at e
      have hle : rhe C (10 ^ (p - 19)) ≤ 10 ^ 19 := by
        refine Nat.le_trans (rhe_le _ _) ?_
        have : C / 10 ^ (p - 19) < 10 ^ 19 := by
          rw [Nat.div_lt_iff_lt_mul (Nat.pow_pos (by omega)), ← Nat.pow_add, show 19 + (p - 19) = p by omega]
          exact hp.1
        omega
      refine ⟨by omega, by omega, by omega, fun hc => ⟨by omega, by omega, .inr ⟨⟨by omega, ?_, .inr ?_⟩, e.symm⟩⟩, fun hc => by rw [e, hc]⟩
      · unfold okN
        rw [e]
        exact hc
      · have h1 := hp.2 (by omega)
        have h2 : 10 ^ 19 ≤ rhe (N * 10 ^ (19 + 41 - p + 1)) d := shift_geT h hd (by
          refine Nat.le_trans ?_ (Nat.mul_le_mul_right _ h1)
          rw [← Nat.pow_add]
          exact Nat.pow_le_pow_right (by omega) (by omega))
        unfold okN
        omega

theorem nbT_out_none (h : C * d ≤ N * 10 ^ 41) (hr : ∀ k, 22 ≤ k → k ≤ 41 → rhe (N * 10 ^ (41 - k)) d = rhe C (10 ^ k)) (hd : 0 < d) (hp : IsPrec C p) (hms : ms ≤ 19) (hn : nbOut C p 41 ms = none) : ¬ okN N d ms := by
  unfold nbOut at hn
  split at hn
  · rename_i h1
    have hlt : 60 < p + ms := by
      unfold nbStep at h1
      split at h1
      · omega
      · split at h1
        · cases h1
        · split at h1
          · cases h1
          · split at h1 <;> cases h1
    exact nbT_none h hd hp hms hlt
  · rename_i c s h1
    obtain ⟨a1, a2, a3, a4, a5⟩ := nbStepT_some h hr hd hp hms h1
    split at hn
    · cases hn
    · have hc : c = 10000000000000000000 := by omega
      have hr := a5 hc
      subst hc
      unfold nbStep at hn
      split at hn
      · have : ms = s := by omega
        subst this
        unfold okN
        omega
      · split at hn
        · cases hn
        · split at hn
          · cases hn
          · split at hn <;> cases hn

theorem nbT_out_some {c s : Nat} (h : C * d ≤ N * 10 ^ 41) (hr : ∀ k, 22 ≤ k → k ≤ 41 → rhe (N * 10 ^ (41 - k)) d = rhe C (10 ^ k)) (hd : 0 < d) (hp : IsPrec C p) (hms : ms ≤ 19) (hn : nbOut C p 41 ms = some (c, s)) : Good N d c s ∧ ms ≤ s := by
  unfold nbOut at hn
  split at hn
  · cases hn
  · rename_i c' s' h1
    obtain ⟨a1, a2, a3, a4, a5⟩ := nbStepT_some h hr hd hp hms h1
    split at hn
    · cases hn
      rename_i h2
      exact ⟨a4 h2, a1⟩
    · have hc : c' = 10000000000000000000 := by omega
      have hr := a5 hc
      subst hc
      unfold nbStep at hn
      split at hn
      · cases hn
      · rw [if_neg (by omega), if_neg (by omega), if_pos (by omega)] at hn
        cases hn
        have e10 : rhe 10000000000000000000 (10 ^ (20 - 19)) = 1000000000000000000 := rhe_exact (by decide) (by decide)
        obtain ⟨t, rfl⟩ : ∃ t, s' = t + 1 := ⟨s' - 1, by omega⟩
        rw [e10, show 19 + (t + 1) - 20 = t by omega]
        have hr2 : rhe (N * 10 ^ t) d = 1000000000000000000 := rhe_ten hd (by rw [Nat.mul_assoc, ← Nat.pow_succ, hr])
        refine ⟨⟨by omega, by omega, .inr ⟨⟨by omega, ?_, .inr ?_⟩, hr2.symm⟩⟩, by omega⟩
        · unfold okN
          omega
        · unfold okN
          omega

end

end Go.Proofs.YtmgidnjpkbgmgabGreatDoor
