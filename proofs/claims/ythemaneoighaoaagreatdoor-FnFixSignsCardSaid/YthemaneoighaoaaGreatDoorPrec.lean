/- The contracts of govalues' whole numbers of 64 bits: prec, ntz; and the laws of digits and of zeros at the end. -/
import Derived.Test.YthemaneoighaoaaGreatDoorGvG
namespace Go.Proofs.YthemaneoighaoaaGreatDoor
open Go.RowKit

def trimN : Nat → Nat → Nat
  | 0, _ => 0
  | s+1, c => if c % 10 = 0 then trimN s (c/10) else s+1

theorem trimN_zero : ∀ s, trimN s 0 = 0
  | 0 => rfl
  | s+1 => by simp [trimN, trimN_zero s]

theorem trimN_ntz : ∀ (s c k : Nat), 10^k ∣ c → ¬ 10^(k+1) ∣ c → trimN s c = s - k
  | 0, c, k, _, _ => by simp [trimN]
  | s+1, c, 0, _, h => by
    have : ¬ c % 10 = 0 := fun e => h (by simpa using Nat.dvd_of_mod_eq_zero e)
    simp [trimN, this]
  | s+1, c, k+1, h1, h2 => by
    obtain ⟨m, rfl⟩ := h1
    have e : 10 ^ (k+1) * m = 10 * (10 ^ k * m) := by rw [Nat.pow_succ, Nat.mul_comm (10^k) 10, Nat.mul_assoc]
    have h3 : (10 ^ (k+1) * m) % 10 = 0 := by rw [e]; exact Nat.mul_mod_right ..
    have h4 : (10 ^ (k+1) * m) / 10 = 10 ^ k * m := by rw [e]; exact Nat.mul_div_cancel_left _ (by decide)
    have h5 : ¬ 10^(k+1) ∣ 10^k * m := by
      intro ⟨j, hj⟩
      refine h2 ⟨j, ?_⟩
      rw [e, hj, Nat.pow_succ 10 (k+1), Nat.mul_comm (10^(k+1)) 10, Nat.mul_assoc]
    have := trimN_ntz s (10^k * m) k ⟨m, rfl⟩ h5
    simp only [trimN, h3, if_true, h4]
    omega

theorem trimN_le : ∀ s c, trimN s c ≤ s
  | 0, _ => Nat.le_refl _
  | s+1, c => by
    have := trimN_le s (c/10)
    simp only [trimN]; split <;> omega

theorem trimN_int : ∀ (s c : Nat), trimN s c = 0 ↔ c % 10^s = 0
  | 0, c => by simp [trimN, Nat.mod_one]
  | s+1, c => by
    have e : 10 ^ (s+1) = 10 * 10 ^ s := by rw [Nat.pow_succ, Nat.mul_comm]
    simp only [trimN]
    rw [e, Nat.mod_mul]
    split
    · next h => rw [trimN_int s (c/10), h]; have : 0 < 10^s := Nat.pow_pos (by decide); omega
    · next h => simp; omega

theorem pow_le_of_dvd {k c : Nat} (h : 10^k ∣ c) (hc : 0 < c) : 10^k ≤ c := Nat.le_of_dvd hc h
theorem dvd_iff_mod (k c : Nat) : 10^k ∣ c ↔ c % 10^k = 0 := Nat.dvd_iff_mod_eq_zero ..
theorem pow_dvd_le {i j c : Nat} (h : i ≤ j) (hd : 10^j ∣ c) : 10^i ∣ c := Nat.dvd_trans (Nat.pow_dvd_pow 10 h) hd

/-- p is how many decimal digits c has; 0 for 0 -/
def IsPrec (c p : Nat) : Prop := c < 10 ^ p ∧ (0 < p → 10 ^ (p - 1) ≤ c)

theorem IsPrec.lt_iff {c p m : Nat} (h : IsPrec c p) : c < 10 ^ m ↔ p ≤ m := by
  refine ⟨fun h1 => ?_, fun h1 => Nat.lt_of_lt_of_le h.1 (Nat.pow_le_pow_right (by decide) h1)⟩
  refine Nat.le_of_not_lt fun h2 => ?_
  have h3 := h.2 (by omega)
  have h4 : 10 ^ m ≤ 10 ^ (p - 1) := Nat.pow_le_pow_right (by decide) (by omega)
  omega

theorem IsPrec.unique {c p q : Nat} (h : IsPrec c p) (k : IsPrec c q) : p = q :=
  Nat.le_antisymm (h.lt_iff.1 k.1) (k.lt_iff.1 h.1)

theorem isPrec_ex : ∀ (n c : Nat), c < 10 ^ n → ∃ p, p ≤ n ∧ IsPrec c p
  | 0, c, h => ⟨0, Nat.le_refl _, h, fun h => absurd h (by decide)⟩
  | n+1, c, h => by
    by_cases h1 : c < 10 ^ n
    · obtain ⟨p, h2, h3⟩ := isPrec_ex n c h1
      exact ⟨p, by omega, h3⟩
    · exact ⟨n+1, Nat.le_refl _, h, fun _ => by simpa using Nat.le_of_not_lt h1⟩

theorem isNtz_ex : ∀ (n c : Nat), 0 < c → c < 10 ^ n → ∃ k, 10 ^ k ∣ c ∧ ¬ 10 ^ (k+1) ∣ c
  | 0, c, h0, h => by simp at h; omega
  | n+1, c, h0, h => by
    by_cases h1 : 10 ∣ c
    · obtain ⟨m, rfl⟩ := h1
      obtain ⟨k, h2, h3⟩ := isNtz_ex n m (by omega) (by rw [Nat.pow_succ] at h; omega)
      refine ⟨k+1, ?_, ?_⟩
      · rw [Nat.pow_succ, Nat.mul_comm]; exact Nat.mul_dvd_mul_left 10 h2
      · intro h4
        apply h3
        rw [Nat.pow_succ, Nat.mul_comm] at h4
        exact Nat.dvd_of_mul_dvd_mul_left (by decide) h4
    · exact ⟨0, by simp, by simpa using h1⟩
theorem ntz_iff {c k m : Nat} (h1 : 10^k ∣ c) (h2 : ¬ 10^(k+1) ∣ c) : c % 10 ^ m = 0 ↔ m ≤ k := by
  rw [← Nat.dvd_iff_mod_eq_zero]
  refine ⟨fun h => Nat.le_of_not_lt fun h3 => h2 (Nat.dvd_trans (Nat.pow_dvd_pow 10 h3) h), fun h => Nat.dvd_trans (Nat.pow_dvd_pow 10 h) h1⟩

/-- the table of the powers of ten holds what it is laid -/
def Pow10s (w : World) : Prop := ∀ i : Nat, i < 20 → w.cell? ⟨0, i, none⟩ = some (.int .u64 ((10 ^ i : Nat) : Int))

theorem Pow10s.fresh {w w' : World} (h : Pow10s w) (hk : Fresh w w') : Pow10s w' := fun i hi => cell_fresh (h i hi) hk

theorem half_sum (a b : Nat) : Int.tdiv ((a : Int) + (b : Int)) 2 = (((a + b) / 2 : Nat) : Int) := by
  rw [Int.tdiv_eq_ediv_of_nonneg (by omega)]; omega

set_option maxRecDepth 20000 in
theorem prec_any (c p : Nat) (w : World) (hP : Pow10s w) (hc : c < 18446744073709551616) (hp : IsPrec c p) :
    Calls Tryz.prog 71 #[.int .u64 c] w (VRet w (.int .i64 p)) := by
  have hp20 : p ≤ 20 := hp.lt_iff.1 (by omega)
  have H_hP := Lib.hid hP; clear hP
  have H_hp := Lib.hid hp; clear hp
  go_enter Tryz.func71, Tryz.ntmps71
  go_wp2_with (fail)
  go_loop [3, 4] (fun l r => ∃ a b : Nat, a ≤ p ∧ p ≤ b ∧ b ≤ 20 ∧ l = .int .i64 a ∧ r = .int .i64 b) (fun l r => (intOf r).toNat - (intOf l).toNat)
  case atStart => exact ⟨0, 20, by omega, hp20, by omega, rfl, rfl⟩
  case round =>
    obtain ⟨a, b, ha, hb, hb2, rfl, rfl⟩ := hrel
    by_cases hlt : a < b
    · have t1 : decide ((a : Int) < (b : Int)) = true := by simp; omega
      have hq := half_sum a b
      obtain ⟨m, hm⟩ : ∃ m, m = (a + b) / 2 := ⟨_, rfl⟩
      rw [← hm] at hq
      have hm1 : a ≤ m := by omega
      have hm2 : m < b := by omega
      have hcell := H_hP.out m (by omega)
      have hiff := H_hp.out.lt_iff (m := m)
      generalize 10 ^ m = x at hcell hiff
      clear hm
      by_cases hle : p ≤ m
      · have hcx : c < x := hiff.2 hle
        have t2 : decide ((c : Int) < (x : Int)) = true := by simp; omega
        clear hiff
        go_wp2_with (fail)
        go_round
        case rel => exact ⟨a, m, ha, hle, by omega, rfl, rfl⟩
        case measure => simp [intOf]; omega
      · have hcx : ¬ c < x := fun h => hle (hiff.1 h)
        have t2 : decide ((c : Int) < (x : Int)) = false := by simp; omega
        clear hiff
        go_wp2_with (fail)
        go_round
        case rel => exact ⟨m + 1, b, by omega, hb, hb2, by simp, rfl⟩
        case measure => simp [intOf]; omega
    · obtain rfl : a = b := by omega
      obtain rfl : a = p := by omega
      have t1 : decide ((a : Int) < (a : Int)) = false := by simp
      go_wp2_with (fail)
      go_ret
      exact ⟨rfl, Keep.refl _ _⟩

set_option maxRecDepth 20000 in
theorem ntz_any (c k : Nat) (w : World) (hP : Pow10s w) (hc : c < 18446744073709551616) (h0 : 0 < c) (hd : 10 ^ k ∣ c) (hn : ¬ 10 ^ (k + 1) ∣ c) :
    Calls Tryz.prog 69 #[.int .u64 c] w (VRet w (.int .i64 k)) := by
  obtain ⟨p, hp20, hp⟩ := isPrec_ex 20 c (by omega)
  have hkp : k < p := by
    have h1 := pow_le_of_dvd hd h0
    have h2 := hp.lt_iff (m := k)
    omega
  have hiff := fun m => ntz_iff (m := m) hd hn
  have H_hP := Lib.hid hP; clear hP
  have H_hp := Lib.hid hp; clear hp
  have H_hd := Lib.hid hd; clear hd
  have H_hn := Lib.hid hn; clear hn
  have H_hiff := Lib.hid hiff; clear hiff
  go_enter Tryz.func69, Tryz.ntmps69
  go_wp2_with (fail)
  refine (prec_any c p _ H_hP.out hc H_hp.out).mono ?_
  rintro e w2 ⟨rfl, hf⟩
  have H_hP2 := Lib.hid (H_hP.out.fresh hf)
  have H_hf := Lib.hid hf; clear hf
  go_wp2_with (fail)
  go_loop [3, 4] (fun l r => ∃ a b : Nat, 1 ≤ a ∧ a ≤ k + 1 ∧ k + 1 ≤ b ∧ b ≤ 20 ∧ l = .int .i64 a ∧ r = .int .i64 b) (fun l r => (intOf r).toNat - (intOf l).toNat)
  case atStart => exact ⟨1, p, by omega, by omega, by omega, by omega, rfl, rfl⟩
  case round =>
    obtain ⟨a, b, ha1, ha, hb, hb2, rfl, rfl⟩ := hrel
    by_cases hlt : a < b
    · have t1 : decide ((a : Int) < (b : Int)) = true := by simp; omega
      have hq := half_sum a b
      obtain ⟨m, hm⟩ : ∃ m, m = (a + b) / 2 := ⟨_, rfl⟩
      rw [← hm] at hq
      have hm1 : a ≤ m := by omega
      have hm2 : m < b := by omega
      have hcell := H_hP2.out m (by omega)
      have hi := H_hiff.out m
      have hx0 : 0 < 10 ^ m := Nat.pow_pos (by omega)
      generalize 10 ^ m = x at hcell hi hx0
      clear hm
      have t0 : ((x : Int) == 0) = false := by rw [beq_eq_false_iff_ne]; omega
      have hr : Int.tmod (c : Int) (x : Int) = ((c % x : Nat) : Int) := by rw [Int.tmod_eq_emod_of_nonneg (by omega)]; rfl
      have hrlt : c % x ≤ c := Nat.mod_le _ _
      by_cases hle : m ≤ k
      · have h3 : c % x = 0 := hi.2 hle
        rw [h3] at hr hrlt
        clear hi h3
        go_wp2_with (fail)
        go_round
        case rel => exact ⟨m + 1, b, by omega, by omega, hb, hb2, by simp, rfl⟩
        case measure => simp [intOf]; omega
      · have h3 : ¬ c % x = 0 := fun h => hle (hi.1 h)
        generalize c % x = y at *
        have t2 : ((y : Int) == 0) = false := by rw [beq_eq_false_iff_ne]; omega
        clear hi
        go_wp2_with (fail)
        go_round
        case rel => exact ⟨a, m, ha1, ha, by omega, by omega, rfl, rfl⟩
        case measure => simp [intOf]; omega
    · obtain rfl : a = b := by omega
      obtain rfl : a = k + 1 := by omega
      have t1 : decide (((k + 1 : Nat) : Int) < ((k + 1 : Nat) : Int)) = false := by simp
      go_wp2_with (fail)
      go_ret
      exact ⟨by simp, H_hf.out⟩

end Go.Proofs.YthemaneoighaoaaGreatDoor
