/- govalues' whole numbers of 64 bits: add, subAbs, isOdd, rshHalfEven. -/
import Derived.WalkSmall
import Derived.Test.YtmgidnjpkbgmgabGreatDoorK12
namespace Go.Proofs.YtmgidnjpkbgmgabGreatDoor
open Go.RowKit

theorem and_odd (x : Nat) (hx : x < 18446744073709551616) : (bits BinOp.and IntKind.u64 (x : Int) 1 != 0) = decide (x % 2 = 1) := by
  rw [and_one_u64 (x : Int) (by omega) (by omega)]
  rcases Nat.mod_two_eq_zero_or_one x with h | h
  · have e : (x : Int) % 2 = 0 := by omega
    rw [e, h]; rfl
  · have e : (x : Int) % 2 = 1 := by omega
    rw [e, h]; rfl

theorem fisOdd_any (x : Nat) (w : World) (hx : x < 18446744073709551616) :
    Calls Tryz.prog 164 #[.int .u64 x] w (fun e w' => e = .returned (.bool (decide (x % 2 = 1))) ∧ w' = w) := by
  have hb := and_odd x hx
  generalize decide (x % 2 = 1) = b at *
  go_enter Tryz.func164, Tryz.ntmps164
  go_wp2
  go_ret
  exact ⟨rfl, rfl⟩

set_option maxHeartbeats 2000000 in
theorem frsh_any (x k : Nat) (w : World) (hP : Pow10s w) (hx : x ≤ 9999999999999999999) (hk : k ≤ 19) :
    Calls Tryz.prog 140 #[.int .u64 x, .int .i64 k] w (fun e w' => e = .returned (.int .u64 (rhe x (10 ^ k))) ∧ w' = w) := by
  by_cases hx0 : x = 0
  · subst hx0
    have hr : rhe 0 (10 ^ k) = 0 := rhe_exact (Nat.pow_pos (by omega)) (by rw [Nat.zero_mul])
    rw [hr]
    clear hr hP
    go_enter Tryz.func140, Tryz.ntmps140
    go_wp2
    go_ret
    exact ⟨rfl, rfl⟩
  by_cases hk0 : k = 0
  · subst hk0
    have hr : rhe x (10 ^ 0) = x := rhe_exact (by decide) (by rw [Nat.pow_zero, Nat.mul_one])
    rw [hr]
    have t0 : ((x : Int) == 0) = false := by rw [beq_eq_false_iff_ne]; omega
    clear hr hP
    go_enter Tryz.func140, Tryz.ntmps140
    go_wp2
    go_ret
    exact ⟨rfl, rfl⟩
  have hcl := hP k (by omega)
  have hyl : 10 ^ k ≤ 10000000000000000000 := by
    have : 10 ^ k ≤ 10 ^ 19 := Nat.pow_le_pow_right (by omega) hk
    omega
  obtain ⟨h, hh⟩ : ∃ h, 10 ^ k = 2 * h := by
    obtain ⟨j, rfl⟩ : ∃ j, k = j + 1 := ⟨k - 1, by omega⟩
    exact ⟨5 * 10 ^ j, by rw [Nat.pow_succ]; omega⟩
  have hy0 : 0 < 10 ^ k := Nat.pow_pos (by omega)
  obtain ⟨y, hy⟩ : ∃ y, y = 10 ^ k := ⟨_, rfl⟩
  rw [← hy] at hcl hyl hh hy0 ⊢
  have t0 : ((x : Int) == 0) = false := by rw [beq_eq_false_iff_ne]; omega
  have t1 : decide ((k : Int) ≤ 0) = false := by simp; omega
  have t2 : decide ((20 : Int) ≤ (k : Int)) = false := by simp; omega
  have hyN : ¬ y = 0 := by omega
  have hdiv : Int.tdiv (x : Int) (y : Int) = ((x / y : Nat) : Int) := by rw [Int.tdiv_eq_ediv_of_nonneg (by omega)]; rfl
  have hdw : IntKind.u64.wrap ((x / y : Nat) : Int) = ((x / y : Nat) : Int) := wrap_u64n _ (by have := Nat.div_le_self x y; omega)
  have hdm := Nat.div_add_mod x y
  have hrhe : rhe x y = x / y + (if y < 2 * (x % y) ∨ (2 * (x % y) = y ∧ x / y % 2 = 1) then 1 else 0) := rfl
  have hqx : x / y ≤ x := Nat.div_le_self x y
  obtain ⟨q, hq⟩ : ∃ q, q = x / y := ⟨_, rfl⟩
  obtain ⟨r, hr⟩ : ∃ r, r = x % y := ⟨_, rfl⟩
  obtain ⟨p, hp⟩ : ∃ p, p = q * y := ⟨_, rfl⟩
  rw [← hq] at hdiv hdw hdm hrhe hqx
  rw [← hr] at hdm hrhe
  have hpx : p + r = x := by rw [hp, Nat.mul_comm]; exact hdm
  have hmulI : IntKind.u64.wrap ((q : Int) * (y : Int)) = (p : Int) := by
    have e : (q : Int) * (y : Int) = ((q * y : Nat) : Int) := by simp
    rw [e, ← hp]
    exact wrap_u64n _ (by omega)
  have hsubI : (x : Int) - (p : Int) = (r : Int) := by omega
  have hhI : (y : Int) / 2 = (h : Int) := by omega
  have hodd := fisOdd_any q w (by omega)
  rw [hrhe]
  clear hdm hrhe hq hr hp hy hP
  rcases Nat.lt_trichotomy h r with hlt | heq | hgt
  · have t3 : decide ((h : Int) < (r : Int)) = true := by simp; omega
    rw [if_pos (by omega)]
    have hres : ((q + 1 : Nat) : Int) = (q : Int) + 1 := by omega
    rw [hres]
    have hq1 : IntKind.u64.wrap ((q : Int) + 1) = (q : Int) + 1 := by have := wrap_u64n (q + 1) (by omega); simpa using this
    clear hodd hh hpx hyl hres hx0
    go_enter Tryz.func140, Tryz.ntmps140
    go_wp2
    go_ret
    exact ⟨rfl, rfl⟩
  · subst heq
    have t3 : decide ((h : Int) < (h : Int)) = false := by simp
    have t4 : ((h : Int) == (h : Int)) = true := by simp
    rcases Nat.mod_two_eq_zero_or_one q with ho | ho
    · rw [if_neg (by omega), Nat.add_zero]
      rw [decide_eq_false (show ¬ q % 2 = 1 by omega)] at hodd
      clear hh hpx hyl hx0 ho
      have H_hodd := Lib.hid hodd; clear hodd
      go_enter Tryz.func140, Tryz.ntmps140
      go_wp2_with (fail)
      refine H_hodd.out.mono ?_
      rintro e w2 ⟨rfl, rfl⟩
      go_wp2
      go_ret
      exact ⟨rfl, rfl⟩
    · rw [if_pos (by omega)]
      rw [decide_eq_true ho] at hodd
      have hres : ((q + 1 : Nat) : Int) = (q : Int) + 1 := by omega
      rw [hres]
      have hq1 : IntKind.u64.wrap ((q : Int) + 1) = (q : Int) + 1 := by have := wrap_u64n (q + 1) (by omega); simpa using this
      clear hh hpx hyl hx0 ho hres
      have H_hodd := Lib.hid hodd; clear hodd
      go_enter Tryz.func140, Tryz.ntmps140
      go_wp2_with (fail)
      refine H_hodd.out.mono ?_
      rintro e w2 ⟨rfl, rfl⟩
      go_wp2
      go_ret
      exact ⟨rfl, rfl⟩
  · have t3 : decide ((h : Int) < (r : Int)) = false := by simp; omega
    have t4 : ((h : Int) == (r : Int)) = false := by rw [beq_eq_false_iff_ne]; omega
    have hne : ¬ h = r := by omega
    have hnlt : ¬ h < r := by omega
    rw [if_neg (by omega), Nat.add_zero]
    clear hodd hh hpx hyl hx0
    go_enter Tryz.func140, Tryz.ntmps140
    go_wp2
    go_ret
    exact ⟨rfl, rfl⟩

end Go.Proofs.YtmgidnjpkbgmgabGreatDoor
