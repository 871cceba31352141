/- The contracts of the reference: Dec.Trim (the exponent that is left). -/
import Derived.Test.YtmgidnjpkbgmgabGreatDoorK5
import Derived.Test.YtmgidnjpkbgmgabGreatDoorK12
namespace Go.Proofs.YtmgidnjpkbgmgabGreatDoor
open Go.RowKit

end Go.Proofs.YtmgidnjpkbgmgabGreatDoor

/- FnFixMinScale's walk. -/
namespace Go.Proofs.YtmgidnjpkbgmgabGreatDoor
open Go.RowKit

theorem MinScale_any (neg : Bool) (s c : Nat) (w : World) (hP : Pow10s w) (hs : s ≤ 19) (hc : c ≤ 9999999999999999999) :
    Calls Tryz.prog 114 #[gd neg s c] w (VRet w (.int .i64 (trimN s c : Int))) := by
  rcases Nat.eq_zero_or_pos c with h0 | h0
  · subst h0
    rw [trimN_zero]
    exact MinScale_zero neg s w
  · obtain ⟨k, h1, h2⟩ := isNtz_ex 20 c h0 (by omega)
    rw [trimN_ntz s c k h1 h2]
    exact MinScale_pos neg s c k w hP hs hc h0 h1 h2

end Go.Proofs.YtmgidnjpkbgmgabGreatDoor

/- govalues: fint.rshDown, Decimal.Trunc, Decimal.Trim. -/
namespace Go.Proofs.YtmgidnjpkbgmgabGreatDoor
open Go.RowKit

set_option maxRecDepth 20000 in
theorem rshDown_any (x k : Nat) (w : World) (hP : Pow10s w) (hx : x ≤ 9999999999999999999) (hk0 : 0 < k) (hk : k ≤ 19) :
    Calls Tryz.prog 138 #[.int .u64 x, .int .i64 k] w (fun e w' => e = .returned (.int .u64 ((x / 10 ^ k : Nat) : Int)) ∧ w' = w) := by
  rcases Nat.eq_zero_or_pos x with h0 | h0
  · subst h0
    rw [Nat.zero_div]
    clear hP
    go_enter Tryz.func138, Tryz.ntmps138
    go_wp2
    go_ret
    exact ⟨rfl, rfl⟩
  · have t0 : ((x : Int) == 0) = false := by rw [beq_eq_false_iff_ne]; omega
    have t1 : decide ((k : Int) ≤ 0) = false := by simp; omega
    have t2 : decide ((20 : Int) ≤ (k : Int)) = false := by simp; omega
    have hcl := hP k (by omega)
    have hy0 : 0 < 10 ^ k := Nat.pow_pos (by omega)
    obtain ⟨y, hy⟩ : ∃ y, y = 10 ^ k := ⟨_, rfl⟩
    rw [← hy] at hcl hy0 ⊢
    have hyN : ¬ y = 0 := by omega
    have hdiv : Int.tdiv (x : Int) (y : Int) = ((x / y : Nat) : Int) := by rw [Int.tdiv_eq_ediv_of_nonneg (by omega)]; rfl
    have hdw : IntKind.u64.wrap ((x / y : Nat) : Int) = ((x / y : Nat) : Int) := wrap_u64n _ (by have := Nat.div_le_self x y; omega)
    obtain ⟨q, hq⟩ : ∃ q, q = x / y := ⟨_, rfl⟩
    rw [← hq] at hdiv hdw ⊢
    clear hq hy hy0
    have H_hP := Lib.hid hP; clear hP
    go_enter Tryz.func138, Tryz.ntmps138
    go_wp2
    go_ret
    exact ⟨rfl, rfl⟩

set_option maxRecDepth 20000 in
set_option maxHeartbeats 2000000 in
theorem Trunc_lt (neg : Bool) (s c t : Nat) (w : World) (hP : Pow10s w) (hs : s ≤ 19) (hc : c ≤ 9999999999999999999) (ht : t < s) :
    Calls Tryz.prog 115 #[gd neg s c, .int .i64 t] w (VRet w (gd (neg && decide (0 < c / 10 ^ (s - t))) t (c / 10 ^ (s - t)))) := by
  have hrd := fun W (hW : Fresh w W) => rshDown_any c (s - t) W (hP.fresh hW) hc (by omega) (by omega)
  have hnu := fun W => newUnsafe_any neg t (c / 10 ^ (s - t)) W (by omega)
  have t1 : decide ((s : Int) ≤ (t : Int)) = false := by simp; omega
  have t2 : max (t : Int) 0 = (t : Int) := by omega
  have hsub : (s : Int) - (t : Int) = ((s - t : Nat) : Int) := by omega
  obtain ⟨k, hk⟩ : ∃ k, k = s - t := ⟨_, rfl⟩
  rw [← hk] at hsub hrd hnu ⊢
  have hkw : IntKind.i64.wrap (k : Int) = (k : Int) := wrap_nat k (by omega)
  obtain ⟨q, hq⟩ : ∃ q, q = c / 10 ^ k := ⟨_, rfl⟩
  obtain ⟨nb, hnb⟩ : ∃ b, b = (neg && decide (0 < q)) := ⟨_, rfl⟩
  rw [← hq] at hrd hnu ⊢
  rw [← hnb] at hnu ⊢
  obtain ⟨g, hg⟩ : ∃ g, g = w.heap.size := ⟨_, rfl⟩
  have bx := boxes2 w #[.bool neg, .int .i8 s, .int .u64 c] #[.bool false, .int .i8 0, .int .u64 0] 60 60 g hg
  clear hq hk hnb
  have H_bx := Lib.hid bx; clear bx
  have H_hrd := Lib.hid hrd; clear hrd
  have H_hnu := Lib.hid hnu; clear hnu
  have H_hP := Lib.hid hP; clear hP
  have H_hs := Lib.hid hs; clear hs
  go_enter Tryz.func115, Tryz.ntmps115
  go_wp2_with (fail)
  generalize hw1 : (w.alloc _).alloc _ = w1
  rw [← hg]
  obtain ⟨b1, b2, hf⟩ := H_bx.out w1 hw1
  have k0 := row_cell b1 0
  have k1 := row_cell b1 1
  have k2 := row_cell b1 2
  simp at k0 k1 k2
  have H_b1 := Lib.hid b1; clear b1
  have H_b2 := Lib.hid b2; clear b2
  have H_hf := Lib.hid hf; clear hf
  have H_hw1 := Lib.hid hw1; clear hw1
  have H_hg := Lib.hid hg; clear hg
  go_wp2_with (fail)
  refine (Scale_any neg s c _ H_hs.out).mono ?_
  rintro e w2 ⟨rfl, f2⟩
  have k0 := cell_fresh k0 f2
  have k1 := cell_fresh k1 f2
  have k2 := cell_fresh k2 f2
  have hf2 := fresh_trans H_hf.out f2
  have b2 := row_fresh H_b2.out f2
  clear f2 H_b2
  have H_hf2 := Lib.hid hf2; clear hf2
  have H_b2 := Lib.hid b2; clear b2
  go_wp2_with (fail)
  refine (Scale_any neg s c _ H_hs.out).mono ?_
  rintro e w3 ⟨rfl, f3⟩
  have k0 := cell_fresh k0 f3
  have k1 := cell_fresh k1 f3
  have k2 := cell_fresh k2 f3
  have hf3 := fresh_trans H_hf2.out f3
  have b2 := row_fresh H_b2.out f3
  clear f3 H_b2
  have H_hf3 := Lib.hid hf3; clear hf3
  have H_b2 := Lib.hid b2; clear b2
  go_wp2_with (fail)
  refine (H_hrd.out _ H_hf3.out).mono ?_
  rintro e w4 ⟨rfl, rfl⟩
  go_wp2_with (fail)
  refine (IsNeg_any neg s c _).mono ?_
  rintro e w5 ⟨rfl, f5⟩
  have hf5 := fresh_trans H_hf3.out f5
  have b2 := row_fresh H_b2.out f5
  clear f5 H_b2
  have H_hf5 := Lib.hid hf5; clear hf5
  have H_b2 := Lib.hid b2; clear b2
  go_wp2_with (fail)
  refine (H_hnu.out _).mono ?_
  rintro e w6 ⟨rfl, f6⟩
  have hf6 := fresh_trans H_hf5.out f6
  have b2 := row_fresh H_b2.out f6
  have p0 := row_cell b2 0
  have p1 := row_cell b2 1
  have p2 := row_cell b2 2
  simp at p0 p1 p2
  have z0 : w6.frozen? ⟨g + 1, 0, none⟩ = false := frozen_of_row _ _ _ _ _ b2
  have z1 : w6.frozen? ⟨g + 1, 1, none⟩ = false := frozen_of_row _ _ _ _ _ b2
  have z2 : w6.frozen? ⟨g + 1, 2, none⟩ = false := frozen_of_row _ _ _ _ _ b2
  clear f6 H_b2
  have H_hf6 := Lib.hid hf6; clear hf6
  have H_b2 := Lib.hid b2; clear b2
  go_wp2_with (fail)
  refine bodyPost_ret (results_cell_row rfl _ _ (g + 1) 60 #[.bool nb, .int .i8 t, .int .u64 q] (0, 0) _ rfl (row_set (row_set (row_set H_b2.out))) Tryz.underlying60 rfl (by kernel_rfl)) rfl ?_
  exact ⟨rfl, Fresh.set3 H_hf6.out (by have := H_hg.out; omega)⟩

set_option maxRecDepth 20000 in
set_option maxHeartbeats 2000000 in
theorem Trunc_ge (neg : Bool) (s c : Nat) (w : World) (hs : s ≤ 19) :
    Calls Tryz.prog 115 #[gd neg s c, .int .i64 s] w (VRet w (gd neg s c)) := by
  have t1 : decide ((s : Int) ≤ (s : Int)) = true := by simp
  have t2 : max (s : Int) 0 = (s : Int) := by omega
  obtain ⟨g, hg⟩ : ∃ g, g = w.heap.size := ⟨_, rfl⟩
  have bx := boxes2 w #[.bool neg, .int .i8 s, .int .u64 c] #[.bool false, .int .i8 0, .int .u64 0] 60 60 g hg
  have H_bx := Lib.hid bx; clear bx
  have H_hs := Lib.hid hs; clear hs
  go_enter Tryz.func115, Tryz.ntmps115
  go_wp2_with (fail)
  generalize hw1 : (w.alloc _).alloc _ = w1
  rw [← hg]
  obtain ⟨b1, b2, hf⟩ := H_bx.out w1 hw1
  have k0 := row_cell b1 0
  have k1 := row_cell b1 1
  have k2 := row_cell b1 2
  simp at k0 k1 k2
  have H_b1 := Lib.hid b1; clear b1
  have H_b2 := Lib.hid b2; clear b2
  have H_hf := Lib.hid hf; clear hf
  have H_hw1 := Lib.hid hw1; clear hw1
  have H_hg := Lib.hid hg; clear hg
  go_wp2_with (fail)
  refine (Scale_any neg s c _ H_hs.out).mono ?_
  rintro e w6 ⟨rfl, f2⟩
  have k0 := cell_fresh k0 f2
  have k1 := cell_fresh k1 f2
  have k2 := cell_fresh k2 f2
  have hf6 := fresh_trans H_hf.out f2
  have b2 := row_fresh H_b2.out f2
  have p0 := row_cell b2 0
  have p1 := row_cell b2 1
  have p2 := row_cell b2 2
  simp at p0 p1 p2
  have z0 : w6.frozen? ⟨g + 1, 0, none⟩ = false := frozen_of_row _ _ _ _ _ b2
  have z1 : w6.frozen? ⟨g + 1, 1, none⟩ = false := frozen_of_row _ _ _ _ _ b2
  have z2 : w6.frozen? ⟨g + 1, 2, none⟩ = false := frozen_of_row _ _ _ _ _ b2
  clear f2 H_b2
  have H_hf6 := Lib.hid hf6; clear hf6
  have H_b2 := Lib.hid b2; clear b2
  go_wp2_with (fail)
  refine bodyPost_ret (results_cell_row rfl _ _ (g + 1) 60 #[.bool neg, .int .i8 s, .int .u64 c] (0, 0) _ rfl (row_set (row_set (row_set H_b2.out))) Tryz.underlying60 rfl (by kernel_rfl)) rfl ?_
  exact ⟨rfl, Fresh.set3 H_hf6.out (by have := H_hg.out; omega)⟩

theorem trimN_dvd : ∀ s c, 10 ^ (s - trimN s c) ∣ c
  | 0, c => by simp
  | s + 1, c => by
    unfold trimN
    split
    · rename_i h
      obtain ⟨q, hq⟩ := trimN_dvd s (c / 10)
      have hl := trimN_le s (c / 10)
      rw [show s + 1 - trimN s (c / 10) = (s - trimN s (c / 10)) + 1 by omega, Nat.pow_succ]
      refine ⟨q, ?_⟩
      rw [Nat.mul_right_comm, ← hq]
      omega
    · simp

/-- d trimmed to no fewer than m places: the same number -/
theorem trim_same {s c m t : Nat} (ht : t = max m (trimN s c)) (hts : t ≤ s) : c / 10 ^ (s - t) * 10 ^ (s - t) = c := by
  obtain ⟨q, hq⟩ := trimN_dvd s c
  have hl := trimN_le s c
  refine Nat.div_mul_cancel ⟨q * 10 ^ (t - trimN s c), ?_⟩
  rw [Nat.mul_left_comm, ← Nat.pow_add, show s - t + (t - trimN s c) = s - trimN s c by omega, Nat.mul_comm]
  exact hq

set_option maxRecDepth 20000 in
set_option maxHeartbeats 2000000 in
theorem TrimD_ge (neg : Bool) (s c m : Nat) (w : World) (hs : s ≤ 19) (hm : s ≤ m) :
    Calls Tryz.prog 79 #[gd neg s c, .int .i64 m] w (VRet w (gd neg s c)) := by
  have t1 : decide ((s : Int) ≤ (m : Int)) = true := by simp; omega
  obtain ⟨g, hg⟩ : ∃ g, g = w.heap.size := ⟨_, rfl⟩
  have bx := boxes2 w #[.bool neg, .int .i8 s, .int .u64 c] #[.bool false, .int .i8 0, .int .u64 0] 60 60 g hg
  have H_bx := Lib.hid bx; clear bx
  have H_hs := Lib.hid hs; clear hs
  go_enter Tryz.func79, Tryz.ntmps79
  go_wp2_with (fail)
  generalize hw1 : (w.alloc _).alloc _ = w1
  rw [← hg]
  obtain ⟨b1, b2, hf⟩ := H_bx.out w1 hw1
  have H_b1 := Lib.hid b1; clear b1
  have H_b2 := Lib.hid b2; clear b2
  have H_hf := Lib.hid hf; clear hf
  have H_hw1 := Lib.hid hw1; clear hw1
  have H_hg := Lib.hid hg; clear hg
  go_wp2_with (fail)
  refine (Scale_any neg s c _ H_hs.out).mono ?_
  rintro e w6 ⟨rfl, f2⟩
  have b1 := row_fresh H_b1.out f2
  have k0 := row_cell b1 0
  have k1 := row_cell b1 1
  have k2 := row_cell b1 2
  simp at k0 k1 k2
  have hf6 := fresh_trans H_hf.out f2
  have b2 := row_fresh H_b2.out f2
  have p0 := row_cell b2 0
  have p1 := row_cell b2 1
  have p2 := row_cell b2 2
  simp at p0 p1 p2
  have z0 : w6.frozen? ⟨g + 1, 0, none⟩ = false := frozen_of_row _ _ _ _ _ b2
  have z1 : w6.frozen? ⟨g + 1, 1, none⟩ = false := frozen_of_row _ _ _ _ _ b2
  have z2 : w6.frozen? ⟨g + 1, 2, none⟩ = false := frozen_of_row _ _ _ _ _ b2
  clear f2 H_b1 H_b2
  have H_hf6 := Lib.hid hf6; clear hf6
  have H_b1 := Lib.hid b1; clear b1
  have H_b2 := Lib.hid b2; clear b2
  go_wp2_with (fail)
  refine bodyPost_ret (results_cell_row rfl _ _ (g + 1) 60 #[.bool neg, .int .i8 s, .int .u64 c] (0, 0) _ rfl (row_set (row_set (row_set H_b2.out))) Tryz.underlying60 rfl (by kernel_rfl)) rfl ?_
  exact ⟨rfl, Fresh.set3 H_hf6.out (by have := H_hg.out; omega)⟩

set_option maxRecDepth 20000 in
set_option maxHeartbeats 2000000 in
theorem TrimD_j (neg n2 : Bool) (s c m j c2 : Nat) (w : World) (hP : Pow10s w) (hs : s ≤ 19) (hc : c ≤ 9999999999999999999) (hm : m < s) (hj : j = trimN s c) (hmj : m < j)
    (htr : ∀ W, Fresh w W → Calls Tryz.prog 115 #[gd neg s c, .int .i64 j] W (VRet W (gd n2 j c2))) :
    Calls Tryz.prog 79 #[gd neg s c, .int .i64 m] w (VRet w (gd n2 j c2)) := by
  have t1 : decide ((s : Int) ≤ (m : Int)) = false := by simp; omega
  have hms := fun W (hW : Fresh w W) => MinScale_any neg s c W (hP.fresh hW) hs hc
  rw [← hj] at hms
  obtain ⟨g, hg⟩ : ∃ g, g = w.heap.size := ⟨_, rfl⟩
  have bx := boxes2 w #[.bool neg, .int .i8 s, .int .u64 c] #[.bool false, .int .i8 0, .int .u64 0] 60 60 g hg
  clear hj
  have H_bx := Lib.hid bx; clear bx
  have H_hs := Lib.hid hs; clear hs
  have H_hms := Lib.hid hms; clear hms
  have H_htr := Lib.hid htr; clear htr
  have H_hP := Lib.hid hP; clear hP
  go_enter Tryz.func79, Tryz.ntmps79
  go_wp2_with (fail)
  generalize hw1 : (w.alloc _).alloc _ = w1
  rw [← hg]
  obtain ⟨b1, b2, hf⟩ := H_bx.out w1 hw1
  have H_b1 := Lib.hid b1; clear b1
  have H_b2 := Lib.hid b2; clear b2
  have H_hf := Lib.hid hf; clear hf
  have H_hw1 := Lib.hid hw1; clear hw1
  have H_hg := Lib.hid hg; clear hg
  go_wp2_with (fail)
  refine (Scale_any neg s c _ H_hs.out).mono ?_
  rintro e w2 ⟨rfl, f2⟩
  have hf2 := fresh_trans H_hf.out f2
  have b1 := row_fresh H_b1.out f2
  have b2 := row_fresh H_b2.out f2
  have k0 := row_cell b1 0
  have k1 := row_cell b1 1
  have k2 := row_cell b1 2
  simp at k0 k1 k2
  clear f2 H_b1 H_b2
  have H_hf2 := Lib.hid hf2; clear hf2
  have H_b1 := Lib.hid b1; clear b1
  have H_b2 := Lib.hid b2; clear b2
  go_wp2_with (fail)
  refine (H_hms.out _ H_hf2.out).mono ?_
  rintro e w3 ⟨rfl, f3⟩
  have hf3 := fresh_trans H_hf2.out f3
  have b1 := row_fresh H_b1.out f3
  have b2 := row_fresh H_b2.out f3
  clear k0 k1 k2
  have k0 := row_cell b1 0
  have k1 := row_cell b1 1
  have k2 := row_cell b1 2
  simp at k0 k1 k2
  clear f3 H_b1 H_b2
  have H_hf3 := Lib.hid hf3; clear hf3
  have H_b1 := Lib.hid b1; clear b1
  have H_b2 := Lib.hid b2; clear b2
  go_wp2_with (fail)
  refine (H_htr.out _ H_hf3.out).mono ?_
  rintro e w6 ⟨rfl, f6⟩
  have hf6 := fresh_trans H_hf3.out f6
  have b2 := row_fresh H_b2.out f6
  have p0 := row_cell b2 0
  have p1 := row_cell b2 1
  have p2 := row_cell b2 2
  simp at p0 p1 p2
  have z0 : w6.frozen? ⟨g + 1, 0, none⟩ = false := frozen_of_row _ _ _ _ _ b2
  have z1 : w6.frozen? ⟨g + 1, 1, none⟩ = false := frozen_of_row _ _ _ _ _ b2
  have z2 : w6.frozen? ⟨g + 1, 2, none⟩ = false := frozen_of_row _ _ _ _ _ b2
  clear f6 H_b2
  have H_hf6 := Lib.hid hf6; clear hf6
  have H_b2 := Lib.hid b2; clear b2
  go_wp2_with (fail)
  refine bodyPost_ret (results_cell_row rfl _ _ (g + 1) 60 #[.bool n2, .int .i8 j, .int .u64 c2] (0, 0) _ rfl (row_set (row_set (row_set H_b2.out))) Tryz.underlying60 rfl (by kernel_rfl)) rfl ?_
  exact ⟨rfl, Fresh.set3 H_hf6.out (by have := H_hg.out; omega)⟩

set_option maxRecDepth 20000 in
set_option maxHeartbeats 2000000 in
theorem TrimD_m (neg n2 : Bool) (s c m j c2 : Nat) (w : World) (hP : Pow10s w) (hs : s ≤ 19) (hc : c ≤ 9999999999999999999) (hm : m < s) (hj : j = trimN s c) (hmj : j ≤ m)
    (htr : ∀ W, Fresh w W → Calls Tryz.prog 115 #[gd neg s c, .int .i64 m] W (VRet W (gd n2 m c2))) :
    Calls Tryz.prog 79 #[gd neg s c, .int .i64 m] w (VRet w (gd n2 m c2)) := by
  have t1 : decide ((s : Int) ≤ (m : Int)) = false := by simp; omega
  have hms := fun W (hW : Fresh w W) => MinScale_any neg s c W (hP.fresh hW) hs hc
  rw [← hj] at hms
  obtain ⟨g, hg⟩ : ∃ g, g = w.heap.size := ⟨_, rfl⟩
  have bx := boxes2 w #[.bool neg, .int .i8 s, .int .u64 c] #[.bool false, .int .i8 0, .int .u64 0] 60 60 g hg
  clear hj
  have H_bx := Lib.hid bx; clear bx
  have H_hs := Lib.hid hs; clear hs
  have H_hms := Lib.hid hms; clear hms
  have H_htr := Lib.hid htr; clear htr
  have H_hP := Lib.hid hP; clear hP
  go_enter Tryz.func79, Tryz.ntmps79
  go_wp2_with (fail)
  generalize hw1 : (w.alloc _).alloc _ = w1
  rw [← hg]
  obtain ⟨b1, b2, hf⟩ := H_bx.out w1 hw1
  have H_b1 := Lib.hid b1; clear b1
  have H_b2 := Lib.hid b2; clear b2
  have H_hf := Lib.hid hf; clear hf
  have H_hw1 := Lib.hid hw1; clear hw1
  have H_hg := Lib.hid hg; clear hg
  go_wp2_with (fail)
  refine (Scale_any neg s c _ H_hs.out).mono ?_
  rintro e w2 ⟨rfl, f2⟩
  have hf2 := fresh_trans H_hf.out f2
  have b1 := row_fresh H_b1.out f2
  have b2 := row_fresh H_b2.out f2
  have k0 := row_cell b1 0
  have k1 := row_cell b1 1
  have k2 := row_cell b1 2
  simp at k0 k1 k2
  clear f2 H_b1 H_b2
  have H_hf2 := Lib.hid hf2; clear hf2
  have H_b1 := Lib.hid b1; clear b1
  have H_b2 := Lib.hid b2; clear b2
  go_wp2_with (fail)
  refine (H_hms.out _ H_hf2.out).mono ?_
  rintro e w3 ⟨rfl, f3⟩
  have hf3 := fresh_trans H_hf2.out f3
  have b1 := row_fresh H_b1.out f3
  have b2 := row_fresh H_b2.out f3
  clear k0 k1 k2
  have k0 := row_cell b1 0
  have k1 := row_cell b1 1
  have k2 := row_cell b1 2
  simp at k0 k1 k2
  clear f3 H_b1 H_b2
  have H_hf3 := Lib.hid hf3; clear hf3
  have H_b1 := Lib.hid b1; clear b1
  have H_b2 := Lib.hid b2; clear b2
  go_wp2_with (fail)
  refine (H_htr.out _ H_hf3.out).mono ?_
  rintro e w6 ⟨rfl, f6⟩
  have hf6 := fresh_trans H_hf3.out f6
  have b2 := row_fresh H_b2.out f6
  have p0 := row_cell b2 0
  have p1 := row_cell b2 1
  have p2 := row_cell b2 2
  simp at p0 p1 p2
  have z0 : w6.frozen? ⟨g + 1, 0, none⟩ = false := frozen_of_row _ _ _ _ _ b2
  have z1 : w6.frozen? ⟨g + 1, 1, none⟩ = false := frozen_of_row _ _ _ _ _ b2
  have z2 : w6.frozen? ⟨g + 1, 2, none⟩ = false := frozen_of_row _ _ _ _ _ b2
  clear f6 H_b2
  have H_hf6 := Lib.hid hf6; clear hf6
  have H_b2 := Lib.hid b2; clear b2
  go_wp2_with (fail)
  refine bodyPost_ret (results_cell_row rfl _ _ (g + 1) 60 #[.bool n2, .int .i8 m, .int .u64 c2] (0, 0) _ rfl (row_set (row_set (row_set H_b2.out))) Tryz.underlying60 rfl (by kernel_rfl)) rfl ?_
  exact ⟨rfl, Fresh.set3 H_hf6.out (by have := H_hg.out; omega)⟩

theorem TrimD_lt (neg n2 : Bool) (s c m t c2 : Nat) (w : World) (hP : Pow10s w) (hs : s ≤ 19) (hc : c ≤ 9999999999999999999) (hm : m < s) (ht : t = max m (trimN s c))
    (htr : ∀ W, Fresh w W → Calls Tryz.prog 115 #[gd neg s c, .int .i64 t] W (VRet W (gd n2 t c2))) :
    Calls Tryz.prog 79 #[gd neg s c, .int .i64 m] w (VRet w (gd n2 t c2)) := by
  rcases Nat.lt_or_ge m (trimN s c) with h | h
  · have e : t = trimN s c := by omega
    rw [e] at htr ⊢
    exact TrimD_j neg n2 s c m _ c2 w hP hs hc hm rfl h htr
  · have e : t = m := by omega
    rw [e] at htr ⊢
    exact TrimD_m neg n2 s c m _ c2 w hP hs hc hm rfl h htr

/-- Trim keeps the number; it is left with no fewer places than it had or m -/
theorem TrimD_any (neg : Bool) (s c m : Nat) (hs : s ≤ 19) (hc : c ≤ 9999999999999999999) (hcan : neg = true → 0 < c) :
    ∃ t c2, t ≤ s ∧ c2 * 10 ^ (s - t) = c ∧ ∀ w, Pow10s w → Calls Tryz.prog 79 #[gd neg s c, .int .i64 m] w (VRet w (gd neg t c2)) := by
  rcases Nat.lt_or_ge m s with hm | hm
  · have hl := trimN_le s c
    rcases Nat.lt_or_ge (max m (trimN s c)) s with h | h
    · have e := trim_same (s := s) (c := c) (m := m) rfl (by omega)
      refine ⟨max m (trimN s c), c / 10 ^ (s - max m (trimN s c)), by omega, e, fun w hP => TrimD_lt neg neg s c m _ _ w hP hs hc hm rfl (fun W hW => ?_)⟩
      have := Trunc_lt neg s c (max m (trimN s c)) W (hP.fresh hW) hs hc h
      have hb : (neg && decide (0 < c / 10 ^ (s - max m (trimN s c)))) = neg := by
        cases neg
        · rfl
        · have h0 := hcan rfl
          have : 0 < c / 10 ^ (s - max m (trimN s c)) := by
            rcases Nat.eq_zero_or_pos (c / 10 ^ (s - max m (trimN s c))) with h' | h'
            · rw [h'] at e; omega
            · exact h'
          simp [this]
      rw [hb] at this
      exact this
    · have e : max m (trimN s c) = s := by omega
      exact ⟨s, c, Nat.le_refl _, by simp, fun w hP => TrimD_lt neg neg s c m s c w hP hs hc hm e.symm (fun W _ => Trunc_ge neg s c W hs)⟩
  · exact ⟨s, c, Nat.le_refl _, by simp, fun w _ => TrimD_ge neg s c m w hs hm⟩

end Go.Proofs.YtmgidnjpkbgmgabGreatDoor

/- The plain law of a quotient that is cut off at 41 places and then rounded half to even: as if it had been rounded at once. -/
namespace Go.Proofs.YtmgidnjpkbgmgabGreatDoor
open Go.RowKit

theorem rhe_trunc {X D H : Nat} (hD : 0 < D) (hK : D ≤ H) : rhe (X * (2 * H) / D) (2 * H) = rhe X D := by
  have hr := Nat.mod_lt X hD
  have hx := Nat.div_add_mod X D
  obtain ⟨q, hq⟩ : ∃ q, q = X / D := ⟨_, rfl⟩
  obtain ⟨r, hrr⟩ : ∃ r, r = X % D := ⟨_, rfl⟩
  rw [← hq, ← hrr] at hx
  rw [← hrr] at hr
  obtain ⟨f, hf⟩ : ∃ f, f = r * (2 * H) / D := ⟨_, rfl⟩
  have e1 : X * (2 * H) / D = q * (2 * H) + f := by
    rw [← hx, hf, Nat.add_mul, Nat.mul_assoc, Nat.mul_add_div hD]
  have f1 : f * D ≤ r * (2 * H) := by rw [hf]; exact Nat.div_mul_le_self _ _
  have f2 : r * (2 * H) < (f + 1) * D := by rw [hf, Nat.mul_comm (_ + 1) D]; exact Nat.lt_mul_div_succ _ hD
  have hfl : f < 2 * H := by
    have h1 : r * (2 * H) < D * (2 * H) := Nat.mul_lt_mul_of_pos_right hr (by omega)
    have h2 : f * D < 2 * H * D := by rw [Nat.mul_comm (2 * H) D]; omega
    exact Nat.lt_of_mul_lt_mul_right h2
  have e2 : (q * (2 * H) + f) / (2 * H) = q := by
    rw [Nat.mul_comm q, Nat.mul_add_div (by omega), Nat.div_eq_of_lt hfl]; omega
  have e3 : (q * (2 * H) + f) % (2 * H) = f := by
    rw [Nat.mul_comm q, Nat.mul_add_mod, Nat.mod_eq_of_lt hfl]
  unfold rhe
  rw [e1, e2, e3, ← hq, ← hrr]
  have k1 : r * (2 * H) = 2 * (r * H) := by rw [Nat.mul_left_comm]
  rw [k1] at f1 f2
  have a1 : (2 * H < 2 * f) ↔ (D < 2 * r) := by
    constructor
    · intro h
      have h1 : (H + 1) * D ≤ f * D := Nat.mul_le_mul_right D (by omega)
      rw [Nat.add_mul, Nat.one_mul, Nat.mul_comm H D] at h1
      have h2 : D * H < 2 * r * H := by rw [Nat.mul_assoc]; omega
      exact Nat.lt_of_mul_lt_mul_right h2
    · intro h
      have h1 : (D + 1) * H ≤ 2 * r * H := Nat.mul_le_mul_right H (by omega)
      rw [Nat.add_mul, Nat.one_mul, Nat.mul_assoc] at h1
      have h2 : (H + 1) * D < (f + 1) * D := by rw [Nat.add_mul, Nat.one_mul, Nat.mul_comm H D]; omega
      have h3 := Nat.lt_of_mul_lt_mul_right h2
      omega
  have a2 : (2 * f = 2 * H) ↔ (2 * r = D) := by
    constructor
    · intro h
      have hfe : f = H := by omega
      subst hfe
      have h0 : ¬ D < 2 * r := fun h => by have := a1.2 h; omega
      have h1 : D * f ≤ 2 * r * f := by rw [Nat.mul_assoc, Nat.mul_comm D f]; exact f1
      have h2 := Nat.le_of_mul_le_mul_right h1 (by omega)
      omega
    · intro h
      have h0 : ¬ 2 * H < 2 * f := fun h' => by have := a1.1 h'; omega
      have h1 : H * D < (f + 1) * D := by
        have : 2 * (r * H) = D * H := by rw [← Nat.mul_assoc, h]
        rw [Nat.mul_comm H D]
        omega
      have h2 := Nat.lt_of_mul_lt_mul_right h1
      omega
  simp only [a1, a2]

/-- cut off at 41 places, rounded k places before that: as if rounded at once -/
theorem quo_rhe {c1 s1 c2 s2 k : Nat} (hs1 : s1 ≤ 19) (hc20 : 0 < c2) (hc2 : c2 ≤ 9999999999999999999) (hk : 22 ≤ k) (hk2 : k ≤ 41) :
    rhe (c1 * 10 ^ s2 * 10 ^ (41 - k)) (10 ^ s1 * c2) = rhe (c1 * 10 ^ s2 * 10 ^ 41 / (10 ^ s1 * c2)) (10 ^ k) := by
  obtain ⟨m, hm⟩ : ∃ m, m = min (s2 + (41 - k)) s1 := ⟨_, rfl⟩
  have hp : 0 < 10 ^ m := Nat.pow_pos (by omega)
  have e1 : c1 * 10 ^ s2 * 10 ^ (41 - k) = c1 * 10 ^ (s2 + (41 - k) - m) * 10 ^ m := by
    rw [Nat.mul_assoc, Nat.mul_assoc, ← Nat.pow_add, ← Nat.pow_add]; congr 2; omega
  have e2 : 10 ^ s1 * c2 = c2 * 10 ^ (s1 - m) * 10 ^ m := by
    rw [Nat.mul_assoc, ← Nat.pow_add, Nat.mul_comm]; congr 2; omega
  have e3 : c1 * 10 ^ s2 * 10 ^ 41 = c1 * 10 ^ (s2 + (41 - k) - m) * 10 ^ k * 10 ^ m := by
    rw [show 10 ^ 41 = 10 ^ (41 - k) * 10 ^ k by rw [← Nat.pow_add]; congr 1; omega, ← Nat.mul_assoc, e1, Nat.mul_right_comm]
  rw [e1, e2, rhe_mul hp, e3, Nat.mul_div_mul_right _ _ hp]
  generalize c1 * 10 ^ (s2 + (41 - k) - m) = X
  obtain ⟨j, hj⟩ : ∃ j, k = j + 1 := ⟨k - 1, by omega⟩
  have hk5 : 10 ^ k = 2 * (5 * 10 ^ j) := by rw [hj, Nat.pow_succ]; omega
  rw [hk5]
  refine (rhe_trunc (Nat.mul_pos hc20 (Nat.pow_pos (by omega))) ?_).symm
  have h1 : c2 * 10 ^ (s1 - m) ≤ 10 ^ 19 * 10 ^ (s1 - m) := Nat.mul_le_mul_right _ (Nat.le_trans hc2 (by decide))
  rw [← Nat.pow_add] at h1
  have h2 : 10 ^ (19 + (s1 - m)) ≤ 10 ^ j := Nat.pow_le_pow_right (by omega) (by omega)
  omega

theorem shift_geT {N d C S n m : Nat} (h : C * d ≤ N * 10 ^ S) (hd : 0 < d) (hC : 10 ^ (m + S) ≤ C * 10 ^ n) : 10 ^ m ≤ rhe (N * 10 ^ n) d := by
  refine Nat.le_trans ?_ (rhe_ge _ _)
  rw [Nat.le_div_iff_mul_le hd]
  have hp : 0 < 10 ^ S := Nat.pow_pos (by omega)
  refine Nat.le_of_mul_le_mul_right ?_ hp
  have e1 : N * 10 ^ n * 10 ^ S = N * 10 ^ S * 10 ^ n := by rw [Nat.mul_right_comm]
  have e2 : 10 ^ m * d * 10 ^ S = 10 ^ (m + S) * d := by rw [Nat.pow_add, Nat.mul_right_comm]
  rw [e1, e2]
  refine Nat.le_trans (Nat.mul_le_mul_right _ hC) ?_
  rw [Nat.mul_right_comm]
  exact Nat.mul_le_mul_right _ h

section
variable {N d C p ms : Nat}

theorem nbT_none (h : C * d ≤ N * 10 ^ 41) (hd : 0 < d) (hp : IsPrec C p) (hms : ms ≤ 19) (hlt : 60 < p + ms) : ¬ okN N d ms := by
  have h1 := hp.2 (by omega)
  have h2 : 10 ^ 19 ≤ rhe (N * 10 ^ ms) d := shift_geT h hd (by
    refine Nat.le_trans ?_ (Nat.mul_le_mul_right _ h1)
    rw [← Nat.pow_add]
    exact Nat.pow_le_pow_right (by omega) (by omega))
  unfold okN
  omega

theorem nbStepT_some {c s : Nat} (h : C * d ≤ N * 10 ^ 41) (hr : ∀ k, 22 ≤ k → k ≤ 41 → rhe (N * 10 ^ (41 - k)) d = rhe C (10 ^ k)) (hd : 0 < d) (hp : IsPrec C p) (hms : ms ≤ 19) (hn : nbStep C p 41 ms = some (c, s)) :
    ms ≤ s ∧ s ≤ 19 ∧ c ≤ 10000000000000000000 ∧ (c < 10000000000000000000 → Good N d c s) ∧ (c = 10000000000000000000 → rhe (N * 10 ^ s) d = 10000000000000000000) := by
  unfold nbStep at hn
  split at hn
  · cases hn
  · rename_i h0
    rw [if_neg (by omega)] at hn
    split at hn
    · rename_i h2
      cases hn
      have e := hr 22 (by omega) (by omega)
      have hC : C < 10 ^ 41 := hp.lt_iff.2 h2.1
      have hle : rhe C (10 ^ (41 - 19)) ≤ 10 ^ 19 := by
        refine Nat.le_trans (rhe_le _ _) ?_
        have : C / 10 ^ (41 - 19) < 10 ^ 19 := by
          rw [Nat.div_lt_iff_lt_mul (Nat.pow_pos (by omega)), ← Nat.pow_add]
          exact hC
        omega
      refine ⟨hms, Nat.le_refl _, by omega, fun hc => ⟨by omega, by omega, .inr ⟨⟨by omega, ?_, .inl rfl⟩, e.symm⟩⟩, fun hc => by rw [e]; exact hc⟩
      unfold okN
      rw [e]
      exact hc
    · rename_i h2
      rw [if_pos (by omega)] at hn
      cases hn
      have e := hr (p - 19) (by omega) (by omega)
      rw [show 41 - (p - 19) = 19 + 41 - p by omega] at e
      have hle : rhe C (10 ^ (p - 19)) ≤ 10 ^ 19 := by
        refine Nat.le_trans (rhe_le _ _) ?_
        have : C / 10 ^ (p - 19) < 10 ^ 19 := by
          rw [Nat.div_lt_iff_lt_mul (Nat.pow_pos (by omega)), ← Nat.pow_add, show 19 + (p - 19) = p by omega]
          exact hp.1
        omega
      refine ⟨by omega, by omega, by omega, fun hc => ⟨by omega, by omega, .inr ⟨⟨by omega, ?_, .inr ?_⟩, e.symm⟩⟩, fun hc => by rw [e, hc]⟩
      · unfold okN
        rw [e]
        exact hc
      · have h1 := hp.2 (by omega)
        have h2 : 10 ^ 19 ≤ rhe (N * 10 ^ (19 + 41 - p + 1)) d := shift_geT h hd (by
          refine Nat.le_trans ?_ (Nat.mul_le_mul_right _ h1)
          rw [← Nat.pow_add]
          exact Nat.pow_le_pow_right (by omega) (by omega))
        unfold okN
        omega

theorem nbT_out_none (h : C * d ≤ N * 10 ^ 41) (hr : ∀ k, 22 ≤ k → k ≤ 41 → rhe (N * 10 ^ (41 - k)) d = rhe C (10 ^ k)) (hd : 0 < d) (hp : IsPrec C p) (hms : ms ≤ 19) (hn : nbOut C p 41 ms = none) : ¬ okN N d ms := by
  unfold nbOut at hn
  split at hn
  · rename_i h1
    have hlt : 60 < p + ms := by
      unfold nbStep at h1
      split at h1
      · omega
      · split at h1
        · cases h1
        · split at h1
          · cases h1
          · split at h1 <;> cases h1
    exact nbT_none h hd hp hms hlt
  · rename_i c s h1
    obtain ⟨a1, a2, a3, a4, a5⟩ := nbStepT_some h hr hd hp hms h1
    split at hn
    · cases hn
    · have hc : c = 10000000000000000000 := by omega
      have hr := a5 hc
      subst hc
      unfold nbStep at hn
      split at hn
      · have : ms = s := by omega
        subst this
        unfold okN
        omega
      · split at hn
        · cases hn
        · split at hn
          · cases hn
          · split at hn <;> cases hn

theorem nbT_out_some {c s : Nat} (h : C * d ≤ N * 10 ^ 41) (hr : ∀ k, 22 ≤ k → k ≤ 41 → rhe (N * 10 ^ (41 - k)) d = rhe C (10 ^ k)) (hd : 0 < d) (hp : IsPrec C p) (hms : ms ≤ 19) (hn : nbOut C p 41 ms = some (c, s)) : Good N d c s ∧ ms ≤ s := by
  unfold nbOut at hn
  split at hn
  · cases hn
  · rename_i c' s' h1
    obtain ⟨a1, a2, a3, a4, a5⟩ := nbStepT_some h hr hd hp hms h1
    split at hn
    · cases hn
      rename_i h2
      exact ⟨a4 h2, a1⟩
    · have hc : c' = 10000000000000000000 := by omega
      have hr := a5 hc
      subst hc
      unfold nbStep at hn
      split at hn
      · cases hn
      · rw [if_neg (by omega), if_neg (by omega), if_pos (by omega)] at hn
        cases hn
        have e10 : rhe 10000000000000000000 (10 ^ (20 - 19)) = 1000000000000000000 := rhe_exact (by decide) (by decide)
        obtain ⟨t, rfl⟩ : ∃ t, s' = t + 1 := ⟨s' - 1, by omega⟩
        rw [e10, show 19 + (t + 1) - 20 = t by omega]
        have hr2 : rhe (N * 10 ^ t) d = 1000000000000000000 := rhe_ten hd (by rw [Nat.mul_assoc, ← Nat.pow_succ, hr])
        refine ⟨⟨by omega, by omega, .inr ⟨⟨by omega, ?_, .inr ?_⟩, hr2.symm⟩⟩, by omega⟩
        · unfold okN
          omega
        · unfold okN
          omega

end

end Go.Proofs.YtmgidnjpkbgmgabGreatDoor
