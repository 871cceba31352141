/- The contract of the reference's fractions: Inverse. -/
import Derived.Deep.CutBlock
import Derived.Test.YtjjolcjeiogdmabGreatDoorK3
import Derived.Test.YtjjolcjeiogdmabGreatDoorK5
import Derived.Test.YtjjolcjeiogdmabGreatDoorK6
import Derived.Test.YtjjolcjeiogdmabGreatDoorK7
import Derived.Test.YtjjolcjeiogdmabGreatDoorK8
import Derived.Test.YtjjolcjeiogdmabGreatDoorK10
namespace Go.Proofs.YtjjolcjeiogdmabGreatDoor
open Go.RowKit

set_option maxRecDepth 20000 in
set_option maxHeartbeats 4000000 in
theorem FracInverse_any (xa : Value) (za : Int) (da : Nat) (w : World) (ha : SFr w xa za da) :
    Calls Tryz.prog 8 #[xa] w (FRet w (if za < 0 then -(da : Int) else (da : Int)) za.natAbs) := by
  obtain ⟨na, va, la, dva, dla, rfl, ha, hna, hca, rfl, hda, hdna, rfl⟩ := ha
  obtain ⟨aa, ca, rfl⟩ := ha.form
  obtain ⟨ada, cda, rfl⟩ := hda.form
  obtain ⟨g, hg⟩ : ∃ g, g = w.heap.size := ⟨_, rfl⟩
  have bx := boxes2 w #[.bool na, .slice aa la.length ca, .slice ada dla.length cda] #[.bool false, .slice none 0 0, .slice none 0 0] 34 34 g hg
  have hmin : ∀ w1, Fresh w w1 → ∀ W, Fresh w1 W → Calls Tryz.prog 17 #[.bool na, .slice ada dla.length cda] W (fun e w' => e = .returned (swh (na && decide (0 < dla.length)) (.slice ada dla.length cda)) ∧ Fresh W w') := fun w1 hf W hW => wholeOf_any na _ dla W ((hda.fresh hf).fresh hW)
  have hnz : sint (na && decide (0 < dla.length)) dla = (if sint na la < 0 then -(sval dla : Int) else (sval dla : Int)) := by
    rw [sint_canon _ hdna]
    cases na
    · rw [if_neg (by simp [sint])]; rfl
    · have h0 : 0 < sval la := by
        rcases Nat.eq_zero_or_pos (sval la) with h | h
        · have := hca (sval_nil_of hna h); cases this
        · exact h
      rw [if_pos (by simp [sint]; omega)]; rfl
  obtain ⟨zz, hzz⟩ : ∃ z, z = (if sint na la < 0 then -(sval dla : Int) else (sval dla : Int)) := ⟨_, rfl⟩
  rw [← hzz] at hnz ⊢
  clear hzz
  have hab : sval la = (sint na la).natAbs := by rw [sint_natAbs]
  obtain ⟨nb, hnb⟩ : ∃ b, b = (na && decide (0 < dla.length)) := ⟨_, rfl⟩
  rw [← hnb] at hmin hnz
  have H_ha := Lib.hid ha; clear ha
  have H_hda := Lib.hid hda; clear hda
  have H_bx := Lib.hid bx; clear bx
  have H_hna := Lib.hid hna; clear hna
  have H_hca := Lib.hid hca; clear hca
  have H_hdna := Lib.hid hdna; clear hdna
  have H_hmin := Lib.hid hmin; clear hmin
  have H_hnb := Lib.hid hnb; clear hnb
  have H_hnz := Lib.hid hnz; clear hnz
  have H_hab := Lib.hid hab; clear hab
  go_enter Tryz.func8, Tryz.ntmps8
  go_wp2_with (fail)
  generalize hw1 : (w.alloc _).alloc _ = w1
  rw [← hg]
  obtain ⟨b1, b2, hf⟩ := H_bx.out w1 hw1
  have k0 := row_cell b1 0
  have k1 := row_cell b1 1
  have k2 := row_cell b1 2
  simp at k0 k1 k2
  have hmin := H_hmin.out w1 hf
  clear H_hmin
  have H_b1 := Lib.hid b1; clear b1
  have H_b2 := Lib.hid b2; clear b2
  have H_hf := Lib.hid hf; clear hf
  have H_hw1 := Lib.hid hw1; clear hw1
  have H_hg := Lib.hid hg; clear hg
  have H_hmin := Lib.hid hmin; clear hmin
  go_region_held3 (fun (w' : World) => w'.cell? ⟨g, 0, none⟩ = some (.bool na) ∧ w'.cell? ⟨g, 1, none⟩ = some (.slice aa la.length ca) ∧ w'.cell? ⟨g, 2, none⟩ = some (.slice ada dla.length cda)) (first | exact ⟨k0, k1, k2⟩ | exact ⟨m0, m1, m2⟩ | exact ⟨far3 (by omega) m0, far3 (by omega) m1, far3 (by omega) m2⟩) (first
    | (go_at_call 17; (with_reducible refine (H_hmin.out _ ?c1).mono ?_); (case c1 => first | exact Keep.refl _ _ | exact (Keep.refl _ _).drew | exact (Keep.refl _ _).drewN _); rintro e w3 ⟨rfl, r2⟩; have hf3 : Fresh w1 w3 := (by first | exact r2 | exact r2.of_drew | exact r2.of_drewN); have m0 := cell_fresh k0 hf3; have m1 := cell_fresh k1 hf3; have m2 := cell_fresh k2 hf3; have b4 := row_fresh H_b2.out (hf3); have p0 := row_cell b4 0; have p1 := row_cell b4 1; have p2 := row_cell b4 2; have z0 : w3.frozen? ⟨g + 1, 0, none⟩ = false := frozen_of_row _ _ _ _ _ b4; have z1 : w3.frozen? ⟨g + 1, 1, none⟩ = false := frozen_of_row _ _ _ _ _ b4; have z2 : w3.frozen? ⟨g + 1, 2, none⟩ = false := frozen_of_row _ _ _ _ _ b4; simp at p0 p1 p2; have H_b4 := Lib.hid b4; clear b4; have H_hf3 := Lib.hid hf3; clear r2 hf3))
  go_wp2
  refine bodyPost_ret (results_cell_row rfl _ _ (g + 1) 34 #[.bool nb, .slice ada dla.length cda, .slice aa la.length ca] (0, 0) _ rfl (row_set (row_set (row_set H_b4.out))) Tryz.underlying34 rfl (by kernel_rfl)) rfl ?_
  have ha3 := (H_ha.out.fresh H_hf.out).fresh H_hf3.out
  have hda3 := (H_hda.out.fresh H_hf.out).fresh H_hf3.out
  have f1 := ha3.off p0 (fun n e => by simp at e)
  have f2 := hda3.off p0 (fun n e => by simp at e)
  exact ⟨_, rfl, ⟨nb, _, dla, _, la, rfl, ((hda3.setOff f2).setOff f2).setOff f2, H_hdna.out, fun h => by rw [H_hnb.out, h]; simp, H_hnz.out, ((ha3.setOff f1).setOff f1).setOff f1, H_hna.out, H_hab.out⟩, (fresh_trans H_hf.out H_hf3.out).set3 (by have := H_hg.out; omega)⟩

end Go.Proofs.YtjjolcjeiogdmabGreatDoor

/- The contracts of the reference: Dec.Trim (the exponent that is left). -/
namespace Go.Proofs.YtjjolcjeiogdmabGreatDoor
open Go.RowKit

end Go.Proofs.YtjjolcjeiogdmabGreatDoor

/- The contracts of the thin package: FixMinScale, FixIsInt. -/
namespace Go.Proofs.YtjjolcjeiogdmabGreatDoor
open Go.RowKit

end Go.Proofs.YtjjolcjeiogdmabGreatDoor

/- FnFixMinScale's walk. -/
namespace Go.Proofs.YtjjolcjeiogdmabGreatDoor
open Go.RowKit

theorem MinScale_any (neg : Bool) (s c : Nat) (w : World) (hP : Pow10s w) (hs : s ≤ 19) (hc : c ≤ 9999999999999999999) :
    Calls Tryz.prog 64 #[gd neg s c] w (VRet w (.int .i64 (trimN s c : Int))) := by
  rcases Nat.eq_zero_or_pos c with h0 | h0
  · subst h0
    rw [trimN_zero]
    exact MinScale_zero neg s w
  · obtain ⟨k, h1, h2⟩ := isNtz_ex 20 c h0 (by omega)
    rw [trimN_ntz s c k h1 h2]
    exact MinScale_pos neg s c k w hP hs hc h0 h1 h2

end Go.Proofs.YtjjolcjeiogdmabGreatDoor

/- govalues: fint.rshDown, Decimal.Trunc, Decimal.Trim. -/
namespace Go.Proofs.YtjjolcjeiogdmabGreatDoor
open Go.RowKit

set_option maxRecDepth 20000 in
theorem rshDown_any (x k : Nat) (w : World) (hP : Pow10s w) (hx : x ≤ 9999999999999999999) (hk0 : 0 < k) (hk : k ≤ 19) :
    Calls Tryz.prog 55 #[.int .u64 x, .int .i64 k] w (fun e w' => e = .returned (.int .u64 ((x / 10 ^ k : Nat) : Int)) ∧ w' = w) := by
  rcases Nat.eq_zero_or_pos x with h0 | h0
  · subst h0
    rw [Nat.zero_div]
    clear hP
    go_enter Tryz.func55, Tryz.ntmps55
    go_wp2
    go_ret
    exact ⟨rfl, rfl⟩
  · have t0 : ((x : Int) == 0) = false := by rw [beq_eq_false_iff_ne]; omega
    have t1 : decide ((k : Int) ≤ 0) = false := by simp; omega
    have t2 : decide ((20 : Int) ≤ (k : Int)) = false := by simp; omega
    have hcl := hP k (by omega)
    have hy0 : 0 < 10 ^ k := Nat.pow_pos (by omega)
    obtain ⟨y, hy⟩ : ∃ y, y = 10 ^ k := ⟨_, rfl⟩
    rw [← hy] at hcl hy0 ⊢
    have hyN : ¬ y = 0 := by omega
    have hdiv : Int.tdiv (x : Int) (y : Int) = ((x / y : Nat) : Int) := by rw [Int.tdiv_eq_ediv_of_nonneg (by omega)]; rfl
    have hdw : IntKind.u64.wrap ((x / y : Nat) : Int) = ((x / y : Nat) : Int) := wrap_u64n _ (by have := Nat.div_le_self x y; omega)
    obtain ⟨q, hq⟩ : ∃ q, q = x / y := ⟨_, rfl⟩
    rw [← hq] at hdiv hdw ⊢
    clear hq hy hy0
    have H_hP := Lib.hid hP; clear hP
    go_enter Tryz.func55, Tryz.ntmps55
    go_wp2
    go_ret
    exact ⟨rfl, rfl⟩

set_option maxRecDepth 20000 in
set_option maxHeartbeats 2000000 in
theorem Trunc_lt (neg : Bool) (s c t : Nat) (w : World) (hP : Pow10s w) (hs : s ≤ 19) (hc : c ≤ 9999999999999999999) (ht : t < s) :
    Calls Tryz.prog 65 #[gd neg s c, .int .i64 t] w (VRet w (gd (neg && decide (0 < c / 10 ^ (s - t))) t (c / 10 ^ (s - t)))) := by
  have hrd := fun W (hW : Fresh w W) => rshDown_any c (s - t) W (hP.fresh hW) hc (by omega) (by omega)
  have hnu := fun W => newUnsafe_any neg t (c / 10 ^ (s - t)) W (by omega)
  have t1 : decide ((s : Int) ≤ (t : Int)) = false := by simp; omega
  have t2 : max (t : Int) 0 = (t : Int) := by omega
  have hsub : (s : Int) - (t : Int) = ((s - t : Nat) : Int) := by omega
  obtain ⟨k, hk⟩ : ∃ k, k = s - t := ⟨_, rfl⟩
  rw [← hk] at hsub hrd hnu ⊢
  have hkw : IntKind.i64.wrap (k : Int) = (k : Int) := wrap_nat k (by omega)
  obtain ⟨q, hq⟩ : ∃ q, q = c / 10 ^ k := ⟨_, rfl⟩
  obtain ⟨nb, hnb⟩ : ∃ b, b = (neg && decide (0 < q)) := ⟨_, rfl⟩
  rw [← hq] at hrd hnu ⊢
  rw [← hnb] at hnu ⊢
  obtain ⟨g, hg⟩ : ∃ g, g = w.heap.size := ⟨_, rfl⟩
  have bx := boxes2 w #[.bool neg, .int .i8 s, .int .u64 c] #[.bool false, .int .i8 0, .int .u64 0] 40 40 g hg
  clear hq hk hnb
  have H_bx := Lib.hid bx; clear bx
  have H_hrd := Lib.hid hrd; clear hrd
  have H_hnu := Lib.hid hnu; clear hnu
  have H_hP := Lib.hid hP; clear hP
  have H_hs := Lib.hid hs; clear hs
  go_enter Tryz.func65, Tryz.ntmps65
  go_wp2_with (fail)
  generalize hw1 : (w.alloc _).alloc _ = w1
  rw [← hg]
  obtain ⟨b1, b2, hf⟩ := H_bx.out w1 hw1
  have k0 := row_cell b1 0
  have k1 := row_cell b1 1
  have k2 := row_cell b1 2
  simp at k0 k1 k2
  have H_b1 := Lib.hid b1; clear b1
  have H_b2 := Lib.hid b2; clear b2
  have H_hf := Lib.hid hf; clear hf
  have H_hw1 := Lib.hid hw1; clear hw1
  have H_hg := Lib.hid hg; clear hg
  go_wp2_with (fail)
  refine (Scale_any neg s c _ H_hs.out).mono ?_
  rintro e w2 ⟨rfl, f2⟩
  have k0 := cell_fresh k0 f2
  have k1 := cell_fresh k1 f2
  have k2 := cell_fresh k2 f2
  have hf2 := fresh_trans H_hf.out f2
  have b2 := row_fresh H_b2.out f2
  clear f2 H_b2
  have H_hf2 := Lib.hid hf2; clear hf2
  have H_b2 := Lib.hid b2; clear b2
  go_wp2_with (fail)
  refine (Scale_any neg s c _ H_hs.out).mono ?_
  rintro e w3 ⟨rfl, f3⟩
  have k0 := cell_fresh k0 f3
  have k1 := cell_fresh k1 f3
  have k2 := cell_fresh k2 f3
  have hf3 := fresh_trans H_hf2.out f3
  have b2 := row_fresh H_b2.out f3
  clear f3 H_b2
  have H_hf3 := Lib.hid hf3; clear hf3
  have H_b2 := Lib.hid b2; clear b2
  go_wp2_with (fail)
  refine (H_hrd.out _ H_hf3.out).mono ?_
  rintro e w4 ⟨rfl, rfl⟩
  go_wp2_with (fail)
  refine (IsNeg_any neg s c _).mono ?_
  rintro e w5 ⟨rfl, f5⟩
  have hf5 := fresh_trans H_hf3.out f5
  have b2 := row_fresh H_b2.out f5
  clear f5 H_b2
  have H_hf5 := Lib.hid hf5; clear hf5
  have H_b2 := Lib.hid b2; clear b2
  go_wp2_with (fail)
  refine (H_hnu.out _).mono ?_
  rintro e w6 ⟨rfl, f6⟩
  have hf6 := fresh_trans H_hf5.out f6
  have b2 := row_fresh H_b2.out f6
  have p0 := row_cell b2 0
  have p1 := row_cell b2 1
  have p2 := row_cell b2 2
  simp at p0 p1 p2
  have z0 : w6.frozen? ⟨g + 1, 0, none⟩ = false := frozen_of_row _ _ _ _ _ b2
  have z1 : w6.frozen? ⟨g + 1, 1, none⟩ = false := frozen_of_row _ _ _ _ _ b2
  have z2 : w6.frozen? ⟨g + 1, 2, none⟩ = false := frozen_of_row _ _ _ _ _ b2
  clear f6 H_b2
  have H_hf6 := Lib.hid hf6; clear hf6
  have H_b2 := Lib.hid b2; clear b2
  go_wp2_with (fail)
  refine bodyPost_ret (results_cell_row rfl _ _ (g + 1) 40 #[.bool nb, .int .i8 t, .int .u64 q] (0, 0) _ rfl (row_set (row_set (row_set H_b2.out))) Tryz.underlying40 rfl (by kernel_rfl)) rfl ?_
  exact ⟨rfl, Fresh.set3 H_hf6.out (by have := H_hg.out; omega)⟩

set_option maxRecDepth 20000 in
set_option maxHeartbeats 2000000 in
theorem Trunc_ge (neg : Bool) (s c : Nat) (w : World) (hs : s ≤ 19) :
    Calls Tryz.prog 65 #[gd neg s c, .int .i64 s] w (VRet w (gd neg s c)) := by
  have t1 : decide ((s : Int) ≤ (s : Int)) = true := by simp
  have t2 : max (s : Int) 0 = (s : Int) := by omega
  obtain ⟨g, hg⟩ : ∃ g, g = w.heap.size := ⟨_, rfl⟩
  have bx := boxes2 w #[.bool neg, .int .i8 s, .int .u64 c] #[.bool false, .int .i8 0, .int .u64 0] 40 40 g hg
  have H_bx := Lib.hid bx; clear bx
  have H_hs := Lib.hid hs; clear hs
  go_enter Tryz.func65, Tryz.ntmps65
  go_wp2_with (fail)
  generalize hw1 : (w.alloc _).alloc _ = w1
  rw [← hg]
  obtain ⟨b1, b2, hf⟩ := H_bx.out w1 hw1
  have k0 := row_cell b1 0
  have k1 := row_cell b1 1
  have k2 := row_cell b1 2
  simp at k0 k1 k2
  have H_b1 := Lib.hid b1; clear b1
  have H_b2 := Lib.hid b2; clear b2
  have H_hf := Lib.hid hf; clear hf
  have H_hw1 := Lib.hid hw1; clear hw1
  have H_hg := Lib.hid hg; clear hg
  go_wp2_with (fail)
  refine (Scale_any neg s c _ H_hs.out).mono ?_
  rintro e w6 ⟨rfl, f2⟩
  have k0 := cell_fresh k0 f2
  have k1 := cell_fresh k1 f2
  have k2 := cell_fresh k2 f2
  have hf6 := fresh_trans H_hf.out f2
  have b2 := row_fresh H_b2.out f2
  have p0 := row_cell b2 0
  have p1 := row_cell b2 1
  have p2 := row_cell b2 2
  simp at p0 p1 p2
  have z0 : w6.frozen? ⟨g + 1, 0, none⟩ = false := frozen_of_row _ _ _ _ _ b2
  have z1 : w6.frozen? ⟨g + 1, 1, none⟩ = false := frozen_of_row _ _ _ _ _ b2
  have z2 : w6.frozen? ⟨g + 1, 2, none⟩ = false := frozen_of_row _ _ _ _ _ b2
  clear f2 H_b2
  have H_hf6 := Lib.hid hf6; clear hf6
  have H_b2 := Lib.hid b2; clear b2
  go_wp2_with (fail)
  refine bodyPost_ret (results_cell_row rfl _ _ (g + 1) 40 #[.bool neg, .int .i8 s, .int .u64 c] (0, 0) _ rfl (row_set (row_set (row_set H_b2.out))) Tryz.underlying40 rfl (by kernel_rfl)) rfl ?_
  exact ⟨rfl, Fresh.set3 H_hf6.out (by have := H_hg.out; omega)⟩

theorem trimN_dvd : ∀ s c, 10 ^ (s - trimN s c) ∣ c
  | 0, c => by simp
  | s + 1, c => by
    unfold trimN
    split
    · rename_i h
      obtain ⟨q, hq⟩ := trimN_dvd s (c / 10)
      have hl := trimN_le s (c / 10)
      rw [show s + 1 - trimN s (c / 10) = (s - trimN s (c / 10)) + 1 by omega, Nat.pow_succ]
      refine ⟨q, ?_⟩
      rw [Nat.mul_right_comm, ← hq]
      omega
    · simp

/-- d trimmed to no fewer than m places: the same number -/
theorem trim_same {s c m t : Nat} (ht : t = max m (trimN s c)) (hts : t ≤ s) : c / 10 ^ (s - t) * 10 ^ (s - t) = c := by
  obtain ⟨q, hq⟩ := trimN_dvd s c
  have hl := trimN_le s c
  refine Nat.div_mul_cancel ⟨q * 10 ^ (t - trimN s c), ?_⟩
  rw [Nat.mul_left_comm, ← Nat.pow_add, show s - t + (t - trimN s c) = s - trimN s c by omega, Nat.mul_comm]
  exact hq

set_option maxRecDepth 20000 in
set_option maxHeartbeats 2000000 in
theorem TrimD_ge (neg : Bool) (s c m : Nat) (w : World) (hs : s ≤ 19) (hm : s ≤ m) :
    Calls Tryz.prog 48 #[gd neg s c, .int .i64 m] w (VRet w (gd neg s c)) := by
  have t1 : decide ((s : Int) ≤ (m : Int)) = true := by simp; omega
  obtain ⟨g, hg⟩ : ∃ g, g = w.heap.size := ⟨_, rfl⟩
  have bx := boxes2 w #[.bool neg, .int .i8 s, .int .u64 c] #[.bool false, .int .i8 0, .int .u64 0] 40 40 g hg
  have H_bx := Lib.hid bx; clear bx
  have H_hs := Lib.hid hs; clear hs
  go_enter Tryz.func48, Tryz.ntmps48
  go_wp2_with (fail)
  generalize hw1 : (w.alloc _).alloc _ = w1
  rw [← hg]
  obtain ⟨b1, b2, hf⟩ := H_bx.out w1 hw1
  have H_b1 := Lib.hid b1; clear b1
  have H_b2 := Lib.hid b2; clear b2
  have H_hf := Lib.hid hf; clear hf
  have H_hw1 := Lib.hid hw1; clear hw1
  have H_hg := Lib.hid hg; clear hg
  go_wp2_with (fail)
  refine (Scale_any neg s c _ H_hs.out).mono ?_
  rintro e w6 ⟨rfl, f2⟩
  have b1 := row_fresh H_b1.out f2
  have k0 := row_cell b1 0
  have k1 := row_cell b1 1
  have k2 := row_cell b1 2
  simp at k0 k1 k2
  have hf6 := fresh_trans H_hf.out f2
  have b2 := row_fresh H_b2.out f2
  have p0 := row_cell b2 0
  have p1 := row_cell b2 1
  have p2 := row_cell b2 2
  simp at p0 p1 p2
  have z0 : w6.frozen? ⟨g + 1, 0, none⟩ = false := frozen_of_row _ _ _ _ _ b2
  have z1 : w6.frozen? ⟨g + 1, 1, none⟩ = false := frozen_of_row _ _ _ _ _ b2
  have z2 : w6.frozen? ⟨g + 1, 2, none⟩ = false := frozen_of_row _ _ _ _ _ b2
  clear f2 H_b1 H_b2
  have H_hf6 := Lib.hid hf6; clear hf6
  have H_b1 := Lib.hid b1; clear b1
  have H_b2 := Lib.hid b2; clear b2
  go_wp2_with (fail)
  refine bodyPost_ret (results_cell_row rfl _ _ (g + 1) 40 #[.bool neg, .int .i8 s, .int .u64 c] (0, 0) _ rfl (row_set (row_set (row_set H_b2.out))) Tryz.underlying40 rfl (by kernel_rfl)) rfl ?_
  exact ⟨rfl, Fresh.set3 H_hf6.out (by have := H_hg.out; omega)⟩

set_option maxRecDepth 20000 in
set_option maxHeartbeats 2000000 in
theorem TrimD_j (neg n2 : Bool) (s c m j c2 : Nat) (w : World) (hP : Pow10s w) (hs : s ≤ 19) (hc : c ≤ 9999999999999999999) (hm : m < s) (hj : j = trimN s c) (hmj : m < j)
    (htr : ∀ W, Fresh w W → Calls Tryz.prog 65 #[gd neg s c, .int .i64 j] W (VRet W (gd n2 j c2))) :
    Calls Tryz.prog 48 #[gd neg s c, .int .i64 m] w (VRet w (gd n2 j c2)) := by
  have t1 : decide ((s : Int) ≤ (m : Int)) = false := by simp; omega
  have hms := fun W (hW : Fresh w W) => MinScale_any neg s c W (hP.fresh hW) hs hc
  rw [← hj] at hms
  obtain ⟨g, hg⟩ : ∃ g, g = w.heap.size := ⟨_, rfl⟩
  have bx := boxes2 w #[.bool neg, .int .i8 s, .int .u64 c] #[.bool false, .int .i8 0, .int .u64 0] 40 40 g hg
  clear hj
  have H_bx := Lib.hid bx; clear bx
  have H_hs := Lib.hid hs; clear hs
  have H_hms := Lib.hid hms; clear hms
  have H_htr := Lib.hid htr; clear htr
  have H_hP := Lib.hid hP; clear hP
  go_enter Tryz.func48, Tryz.ntmps48
  go_wp2_with (fail)
  generalize hw1 : (w.alloc _).alloc _ = w1
  rw [← hg]
  obtain ⟨b1, b2, hf⟩ := H_bx.out w1 hw1
  have H_b1 := Lib.hid b1; clear b1
  have H_b2 := Lib.hid b2; clear b2
  have H_hf := Lib.hid hf; clear hf
  have H_hw1 := Lib.hid hw1; clear hw1
  have H_hg := Lib.hid hg; clear hg
  go_wp2_with (fail)
  refine (Scale_any neg s c _ H_hs.out).mono ?_
  rintro e w2 ⟨rfl, f2⟩
  have hf2 := fresh_trans H_hf.out f2
  have b1 := row_fresh H_b1.out f2
  have b2 := row_fresh H_b2.out f2
  have k0 := row_cell b1 0
  have k1 := row_cell b1 1
  have k2 := row_cell b1 2
  simp at k0 k1 k2
  clear f2 H_b1 H_b2
  have H_hf2 := Lib.hid hf2; clear hf2
  have H_b1 := Lib.hid b1; clear b1
  have H_b2 := Lib.hid b2; clear b2
  go_wp2_with (fail)
  refine (H_hms.out _ H_hf2.out).mono ?_
  rintro e w3 ⟨rfl, f3⟩
  have hf3 := fresh_trans H_hf2.out f3
  have b1 := row_fresh H_b1.out f3
  have b2 := row_fresh H_b2.out f3
  clear k0 k1 k2
  have k0 := row_cell b1 0
  have k1 := row_cell b1 1
  have k2 := row_cell b1 2
  simp at k0 k1 k2
  clear f3 H_b1 H_b2
  have H_hf3 := Lib.hid hf3; clear hf3
  have H_b1 := Lib.hid b1; clear b1
  have H_b2 := Lib.hid b2; clear b2
  go_wp2_with (fail)
  refine (H_htr.out _ H_hf3.out).mono ?_
  rintro e w6 ⟨rfl, f6⟩
  have hf6 := fresh_trans H_hf3.out f6
  have b2 := row_fresh H_b2.out f6
  have p0 := row_cell b2 0
  have p1 := row_cell b2 1
  have p2 := row_cell b2 2
  simp at p0 p1 p2
  have z0 : w6.frozen? ⟨g + 1, 0, none⟩ = false := frozen_of_row _ _ _ _ _ b2
  have z1 : w6.frozen? ⟨g + 1, 1, none⟩ = false := frozen_of_row _ _ _ _ _ b2
  have z2 : w6.frozen? ⟨g + 1, 2, none⟩ = false := frozen_of_row _ _ _ _ _ b2
  clear f6 H_b2
  have H_hf6 := Lib.hid hf6; clear hf6
  have H_b2 := Lib.hid b2; clear b2
  go_wp2_with (fail)
  refine bodyPost_ret (results_cell_row rfl _ _ (g + 1) 40 #[.bool n2, .int .i8 j, .int .u64 c2] (0, 0) _ rfl (row_set (row_set (row_set H_b2.out))) Tryz.underlying40 rfl (by kernel_rfl)) rfl ?_
  exact ⟨rfl, Fresh.set3 H_hf6.out (by have := H_hg.out; omega)⟩

set_option maxRecDepth 20000 in
set_option maxHeartbeats 2000000 in
theorem TrimD_m (neg n2 : Bool) (s c m j c2 : Nat) (w : World) (hP : Pow10s w) (hs : s ≤ 19) (hc : c ≤ 9999999999999999999) (hm : m < s) (hj : j = trimN s c) (hmj : j ≤ m)
    (htr : ∀ W, Fresh w W → Calls Tryz.prog 65 #[gd neg s c, .int .i64 m] W (VRet W (gd n2 m c2))) :
    Calls Tryz.prog 48 #[gd neg s c, .int .i64 m] w (VRet w (gd n2 m c2)) := by
  have t1 : decide ((s : Int) ≤ (m : Int)) = false := by simp; omega
  have hms := fun W (hW : Fresh w W) => MinScale_any neg s c W (hP.fresh hW) hs hc
  rw [← hj] at hms
  obtain ⟨g, hg⟩ : ∃ g, g = w.heap.size := ⟨_, rfl⟩
  have bx := boxes2 w #[.bool neg, .int .i8 s, .int .u64 c] #[.bool false, .int .i8 0, .int .u64 0] 40 40 g hg
  clear hj
  have H_bx := Lib.hid bx; clear bx
  have H_hs := Lib.hid hs; clear hs
  have H_hms := Lib.hid hms; clear hms
  have H_htr := Lib.hid htr; clear htr
  have H_hP := Lib.hid hP; clear hP
  go_enter Tryz.func48, Tryz.ntmps48
  go_wp2_with (fail)
  generalize hw1 : (w.alloc _).alloc _ = w1
  rw [← hg]
  obtain ⟨b1, b2, hf⟩ := H_bx.out w1 hw1
  have H_b1 := Lib.hid b1; clear b1
  have H_b2 := Lib.hid b2; clear b2
  have H_hf := Lib.hid hf; clear hf
  have H_hw1 := Lib.hid hw1; clear hw1
  have H_hg := Lib.hid hg; clear hg
  go_wp2_with (fail)
  refine (Scale_any neg s c _ H_hs.out).mono ?_
  rintro e w2 ⟨rfl, f2⟩
  have hf2 := fresh_trans H_hf.out f2
  have b1 := row_fresh H_b1.out f2
  have b2 := row_fresh H_b2.out f2
  have k0 := row_cell b1 0
  have k1 := row_cell b1 1
  have k2 := row_cell b1 2
  simp at k0 k1 k2
  clear f2 H_b1 H_b2
  have H_hf2 := Lib.hid hf2; clear hf2
  have H_b1 := Lib.hid b1; clear b1
  have H_b2 := Lib.hid b2; clear b2
  go_wp2_with (fail)
  refine (H_hms.out _ H_hf2.out).mono ?_
  rintro e w3 ⟨rfl, f3⟩
  have hf3 := fresh_trans H_hf2.out f3
  have b1 := row_fresh H_b1.out f3
  have b2 := row_fresh H_b2.out f3
  clear k0 k1 k2
  have k0 := row_cell b1 0
  have k1 := row_cell b1 1
  have k2 := row_cell b1 2
  simp at k0 k1 k2
  clear f3 H_b1 H_b2
  have H_hf3 := Lib.hid hf3; clear hf3
  have H_b1 := Lib.hid b1; clear b1
  have H_b2 := Lib.hid b2; clear b2
  go_wp2_with (fail)
  refine (H_htr.out _ H_hf3.out).mono ?_
  rintro e w6 ⟨rfl, f6⟩
  have hf6 := fresh_trans H_hf3.out f6
  have b2 := row_fresh H_b2.out f6
  have p0 := row_cell b2 0
  have p1 := row_cell b2 1
  have p2 := row_cell b2 2
  simp at p0 p1 p2
  have z0 : w6.frozen? ⟨g + 1, 0, none⟩ = false := frozen_of_row _ _ _ _ _ b2
  have z1 : w6.frozen? ⟨g + 1, 1, none⟩ = false := frozen_of_row _ _ _ _ _ b2
  have z2 : w6.frozen? ⟨g + 1, 2, none⟩ = false := frozen_of_row _ _ _ _ _ b2
  clear f6 H_b2
  have H_hf6 := Lib.hid hf6; clear hf6
  have H_b2 := Lib.hid b2; clear b2
  go_wp2_with (fail)
  refine bodyPost_ret (results_cell_row rfl _ _ (g + 1) 40 #[.bool n2, .int .i8 m, .int .u64 c2] (0, 0) _ rfl (row_set (row_set (row_set H_b2.out))) Tryz.underlying40 rfl (by kernel_rfl)) rfl ?_
  exact ⟨rfl, Fresh.set3 H_hf6.out (by have := H_hg.out; omega)⟩

theorem TrimD_lt (neg n2 : Bool) (s c m t c2 : Nat) (w : World) (hP : Pow10s w) (hs : s ≤ 19) (hc : c ≤ 9999999999999999999) (hm : m < s) (ht : t = max m (trimN s c))
    (htr : ∀ W, Fresh w W → Calls Tryz.prog 65 #[gd neg s c, .int .i64 t] W (VRet W (gd n2 t c2))) :
    Calls Tryz.prog 48 #[gd neg s c, .int .i64 m] w (VRet w (gd n2 t c2)) := by
  rcases Nat.lt_or_ge m (trimN s c) with h | h
  · have e : t = trimN s c := by omega
    rw [e] at htr ⊢
    exact TrimD_j neg n2 s c m _ c2 w hP hs hc hm rfl h htr
  · have e : t = m := by omega
    rw [e] at htr ⊢
    exact TrimD_m neg n2 s c m _ c2 w hP hs hc hm rfl h htr

/-- Trim keeps the number; it is left with no fewer places than it had or m -/
theorem TrimD_any (neg : Bool) (s c m : Nat) (hs : s ≤ 19) (hc : c ≤ 9999999999999999999) (hcan : neg = true → 0 < c) :
    ∃ t c2, t ≤ s ∧ c2 * 10 ^ (s - t) = c ∧ ∀ w, Pow10s w → Calls Tryz.prog 48 #[gd neg s c, .int .i64 m] w (VRet w (gd neg t c2)) := by
  rcases Nat.lt_or_ge m s with hm | hm
  · have hl := trimN_le s c
    rcases Nat.lt_or_ge (max m (trimN s c)) s with h | h
    · have e := trim_same (s := s) (c := c) (m := m) rfl (by omega)
      refine ⟨max m (trimN s c), c / 10 ^ (s - max m (trimN s c)), by omega, e, fun w hP => TrimD_lt neg neg s c m _ _ w hP hs hc hm rfl (fun W hW => ?_)⟩
      have := Trunc_lt neg s c (max m (trimN s c)) W (hP.fresh hW) hs hc h
      have hb : (neg && decide (0 < c / 10 ^ (s - max m (trimN s c)))) = neg := by
        cases neg
        · rfl
        · have h0 := hcan rfl
          have : 0 < c / 10 ^ (s - max m (trimN s c)) := by
            rcases Nat.eq_zero_or_pos (c / 10 ^ (s - max m (trimN s c))) with h' | h'
            · rw [h'] at e; omega
            · exact h'
          simp [this]
      rw [hb] at this
      exact this
    · have e : max m (trimN s c) = s := by omega
      exact ⟨s, c, Nat.le_refl _, by simp, fun w hP => TrimD_lt neg neg s c m s c w hP hs hc hm e.symm (fun W _ => Trunc_ge neg s c W hs)⟩
  · exact ⟨s, c, Nat.le_refl _, by simp, fun w _ => TrimD_ge neg s c m w hs hm⟩

end Go.Proofs.YtjjolcjeiogdmabGreatDoor

/- govalues: newFromFint. -/
namespace Go.Proofs.YtjjolcjeiogdmabGreatDoor
open Go.RowKit

theorem ErrIs.lt {w : World} {a : Addr} (h : w.cell? ⟨1, 0, none⟩ = some (.iface 71 (.pointer (some a)))) : 1 < w.heap.size := World.block_lt_of_cell? _ _ h

set_option maxRecDepth 20000 in
set_option maxHeartbeats 2000000 in
theorem newFromFint_mid (neg : Bool) (C S ms : Nat) (w : World) (hP : Pow10s w) (hC : C ≤ 9999999999999999999) (h1 : ms ≤ S) (h2 : S ≤ 19) :
    Calls Tryz.prog 57 #[.bool neg, .int .u64 C, .int .i64 S, .int .i64 ms] w (VRet w (.tuple #[gd (neg && decide (0 < C)) S (C), .nilIface])) := by
  obtain ⟨g, hg⟩ : ∃ g, g = w.heap.size := ⟨_, rfl⟩
  have bx := box1 w #[.bool false, .int .i8 0, .int .u64 0] 40 g hg
  have t1 : decide ((S : Int) < (ms : Int)) = false := by simp; omega
  have t1n : ¬ S < ms := by omega
  have t2 : decide (19 < (S : Int)) = false := by simp; omega
  have hsafe := fun W => newSafe_any neg S C W h2 hC
  have H_bx := Lib.hid bx; clear bx
  have H_hsafe := Lib.hid hsafe; clear hsafe
  have H_hP := Lib.hid hP; clear hP
  go_enter Tryz.func57, Tryz.ntmps57
  go_wp2_with (fail)
  generalize hw1 : w.alloc _ = w1
  rw [← hg]
  obtain ⟨b1, hf⟩ := H_bx.out w1 hw1
  have H_b1 := Lib.hid b1; clear b1
  have H_hf := Lib.hid hf; clear hf
  have H_hw1 := Lib.hid hw1; clear hw1
  have H_hg := Lib.hid hg; clear hg
  go_wp2_with (fail)
  refine (H_hsafe.out _).mono ?_
  rintro e w3 ⟨rfl, f3⟩
  have b1 := row_fresh H_b1.out f3
  have p0 := row_cell b1 0
  have p1 := row_cell b1 1
  have p2 := row_cell b1 2
  simp at p0 p1 p2
  have z0 : w3.frozen? ⟨g, 0, none⟩ = false := frozen_of_row _ _ _ _ _ b1
  have z1 : w3.frozen? ⟨g, 1, none⟩ = false := frozen_of_row _ _ _ _ _ b1
  have z2 : w3.frozen? ⟨g, 2, none⟩ = false := frozen_of_row _ _ _ _ _ b1
  clear H_b1
  obtain ⟨bn, hbn⟩ : ∃ b, b = (neg && decide (0 < C)) := ⟨_, rfl⟩
  rw [← hbn]
  have H_b1 := Lib.hid b1; clear b1
  have H_hbn := Lib.hid hbn; clear hbn
  go_wp2_with (fail)
  refine bodyPost_ret (results_cell_tmp_row rfl _ _ g 40 #[.bool bn, .int .i8 S, .int .u64 C] (0, 0) _ rfl (row_set (row_set (row_set H_b1.out))) Tryz.underlying40 rfl (by kernel_rfl)) rfl ?_
  exact ⟨by rw [← H_hbn.out]; rfl, Fresh.set3 (fresh_trans H_hf.out f3) (by have := H_hg.out; omega)⟩

end Go.Proofs.YtjjolcjeiogdmabGreatDoor

/- What sums and products return: a decimal, and a fault or none. -/
namespace Go.Proofs.YtjjolcjeiogdmabGreatDoor
open Go.RowKit

/-- the call returns a decimal, and an error or none -/
def DOut (w : World) (nz : Bool) (sz cz : Nat) (Pv : Value → Prop) (e : Ending) (w' : World) : Prop := ∃ ev, e = .returned (.tuple #[gd nz sz cz, ev]) ∧ Pv ev ∧ Fresh w w'

def NoErr (v : Value) : Prop := v = .nilIface
def AnErr (v : Value) : Prop := ∃ a : Addr, v = .iface 71 (.pointer (some a))

theorem DOut.of_ok {w w' : World} {nz : Bool} {sz cz : Nat} {e : Ending} (h : VRet w (.tuple #[gd nz sz cz, .nilIface]) e w') : DOut w nz sz cz NoErr e w' := ⟨_, h.1, rfl, h.2⟩
theorem DOut.of_err {w w' : World} {e : Ending} (h : ClampErr w e w') : DOut w false 0 0 AnErr e w' := by
  obtain ⟨a, h1, h2⟩ := h
  exact ⟨_, h1, ⟨a, rfl⟩, h2⟩

/-- the decimal is a result for z / d with at least ms places -/
def ResOK (z : Int) (d ms : Nat) (nz : Bool) (sz cz : Nat) : Prop := Good z.natAbs d cz sz ∧ ms ≤ sz ∧ (nz = true → 0 < cz) ∧ zfix nz cz = sgnN z cz

theorem res_ok {z : Int} {d ms s c : Nat} {neg : Bool} (hd : 0 < d) (hg : Good z.natAbs d c s) (hms : ms ≤ s) (h1 : z < 0 → neg = true) (h2 : 0 < z → neg = false) : ResOK z d ms (neg && decide (0 < c)) s c :=
  ⟨hg, hms, fun h => canon_pos h, out_sign h1 h2 (fun h => good_zero hd (by rw [h] at hg; exact hg))⟩

theorem DOut.ok {w w' : World} {nz : Bool} {sz cz : Nat} {e : Ending} (h : DOut w nz sz cz NoErr e w') : VRet w (.tuple #[gd nz sz cz, .nilIface]) e w' := by
  obtain ⟨ev, h1, h2, h3⟩ := h
  exact ⟨by rw [h1, show ev = .nilIface from h2], h3⟩

theorem DOut.err {w w' : World} {e : Ending} (h : DOut w false 0 0 AnErr e w') : ClampErr w e w' := by
  obtain ⟨ev, h1, ⟨a, h2⟩, h3⟩ := h
  exact ⟨a, by rw [h1, h2], h3⟩

theorem cells6 {V : World} {g : Nat} {m1 m2 : Bool} {c1 s1 c2 s2 : Nat} {T1 T2 : TypeId} (r1 : V.heap[g]? = some (.cells #[.bool m1, .int .i8 s1, .int .u64 c1] T1 (0, 0))) (r2 : V.heap[g + 1]? = some (.cells #[.bool m2, .int .i8 s2, .int .u64 c2] T2 (0, 0))) :
    V.cell? ⟨g, 0, none⟩ = some (.bool m1) ∧ V.cell? ⟨g, 1, none⟩ = some (.int .i8 s1) ∧ V.cell? ⟨g, 2, none⟩ = some (.int .u64 c1) ∧ V.cell? ⟨g + 1, 0, none⟩ = some (.bool m2) ∧ V.cell? ⟨g + 1, 1, none⟩ = some (.int .i8 s2) ∧ V.cell? ⟨g + 1, 2, none⟩ = some (.int .u64 c2) :=
  ⟨row_cell r1 0, row_cell r1 1, row_cell r1 2, row_cell r2 0, row_cell r2 1, row_cell r2 2⟩

end Go.Proofs.YtjjolcjeiogdmabGreatDoor

/- govalues.Decimal.addMulFint. -/
namespace Go.Proofs.YtjjolcjeiogdmabGreatDoor
open Go.RowKit

def fshTo (x k : Nat) : Value := if k ≤ 19 then mulTo (x * 10 ^ k) else .tuple #[.int .u64 0, .bool false]

theorem fsh_any (x k : Nat) (w : World) (hP : Pow10s w) (hx : x ≤ 9999999999999999999) (hk : k ≤ 100) :
    Calls Tryz.prog 53 #[.int .u64 x, .int .i64 k] w (fun e w' => e = .returned (fshTo x k) ∧ w' = w) := by
  unfold fshTo
  by_cases h : k ≤ 19
  · rw [if_pos h]; exact flsh_any x k w hP hx h
  · rw [if_neg h]
    have t1 : decide ((k : Int) ≤ 0) = false := by simp; omega
    have t2 : ((k : Int) == 1) = false := by rw [beq_eq_false_iff_ne]; omega
    have t3 : decide ((20 : Int) ≤ (k : Int)) = true := by simp; omega
    clear hP
    go_enter Tryz.func53, Tryz.ntmps53
    go_wp2
    go_ret2
    exact ⟨rfl, rfl⟩

theorem mulTo_yes {n : Nat} (h : n ≤ 9999999999999999999) : mulTo n = .tuple #[.int .u64 n, .bool true] := by unfold mulTo; rw [if_pos h]
theorem mulTo_no {n : Nat} (h : ¬ n ≤ 9999999999999999999) : mulTo n = .tuple #[.int .u64 0, .bool false] := by unfold mulTo; rw [if_neg h]

def AMOut (w : World) (fit : Prop) (nz : Bool) (sz cz : Nat) (Pv : Value → Prop) (e : Ending) (w' : World) : Prop := (fit ∧ DOut w nz sz cz Pv e w') ∨ (¬ fit ∧ ClampErr w e w')

end Go.Proofs.YtjjolcjeiogdmabGreatDoor

/- newFromFint: a result, or a fault. -/
namespace Go.Proofs.YtjjolcjeiogdmabGreatDoor
open Go.RowKit

end Go.Proofs.YtjjolcjeiogdmabGreatDoor
