/- Sums by whole numbers of 64 bits: addFint. -/
import Derived.Test.YtjdfapoomjeabaaGreatDoorK12
import Derived.Test.YtjdfapoomjeabaaGreatDoorK17
import Derived.Test.YtjdfapoomjeabaaGreatDoorK44
namespace Go.Proofs.YtjdfapoomjeabaaGreatDoor
open Go.RowKit

set_option maxRecDepth 20000 in
set_option maxHeartbeats 4000000 in
theorem addFint_gt_lshno (m1 m2 : Bool) (c1 s1 c2 s2 : Nat) (w : World) (hP : Pow10s w) (hE : ErrIs w) (ms : Nat) (hs1 : s1 ≤ 19) (hs2 : s2 ≤ 19) (_hc1 : c1 ≤ 9999999999999999999) (hc2 : c2 ≤ 9999999999999999999) (hsc : s2 < s1) (hfit : ¬ c2 * 10 ^ (s1 - s2) ≤ 9999999999999999999) :
    Calls Tryz.prog 85 #[gd m1 s1 c1, gd m2 s2 c2, .int .i64 ms] w (ClampErr w) := by
  have t1 : decide ((s2 : Int) < (s1 : Int)) = true := by simp; omega
  have hlsh := fun W (hW : Fresh w W) => flsh_any c2 (s1 - s2) W (hP.fresh hW) hc2 (by omega)
  obtain ⟨k, hk⟩ : ∃ k, k = s1 - s2 := ⟨_, rfl⟩
  have hkI : (s1 : Int) - (s2 : Int) = (k : Int) := by omega
  have hkw : IntKind.i64.wrap (k : Int) = (k : Int) := wrap_nat k (by omega)
  rw [← hk] at hlsh hfit
  obtain ⟨b, hb⟩ : ∃ b, b = c2 * 10 ^ k := ⟨_, rfl⟩
  rw [← hb] at hlsh hfit
  have hm : mulTo b = .tuple #[.int .u64 0, .bool false] := by unfold mulTo; rw [if_neg hfit]
  rw [hm] at hlsh
  clear hm hb hk
  clear hfit
  obtain ⟨g, hg⟩ : ∃ g, g = w.heap.size := ⟨_, rfl⟩
  have bx := boxes3 w #[.bool m1, .int .i8 s1, .int .u64 c1] #[.bool m2, .int .i8 s2, .int .u64 c2] #[.bool false, .int .i8 0, .int .u64 0] 50 50 50 g hg
  have H_bx := Lib.hid bx; clear bx
  have H_hP := Lib.hid hP; clear hP
  have H_hE := Lib.hid hE; clear hE
  have H_hlsh := Lib.hid hlsh; clear hlsh
  go_enter Tryz.func85, Tryz.ntmps85
  go_wp2_with (fail)
  generalize hw1 : ((w.alloc _).alloc _).alloc _ = w1
  rw [← hg]
  obtain ⟨r1, r2, r3, fa, _⟩ := H_bx.out w1 hw1
  obtain ⟨k0, k1, k2, k3, k4, k5⟩ := cells6 r1 r2
  have H_r1 := Lib.hid r1; clear r1
  have H_r2 := Lib.hid r2; clear r2
  have H_r3 := Lib.hid r3; clear r3
  have H_fa := Lib.hid fa; clear fa
  have H_hw1 := Lib.hid hw1; clear hw1
  have H_hg := Lib.hid hg; clear hg
  go_wp2_with (fail)
  refine (Scale_any m1 s1 c1 _ hs1).mono ?_
  rintro e w2 ⟨rfl, f2⟩
  have r1 := row_fresh H_r1.out f2
  have r2 := row_fresh H_r2.out f2
  have r3 := row_fresh H_r3.out f2
  have fa := fresh_trans H_fa.out f2
  clear H_r1 H_r2 H_r3 H_fa f2
  clear k0 k1 k2 k3 k4 k5
  obtain ⟨k0, k1, k2, k3, k4, k5⟩ := cells6 r1 r2
  have H_r1 := Lib.hid r1; clear r1
  have H_r2 := Lib.hid r2; clear r2
  have H_r3 := Lib.hid r3; clear r3
  have H_fa := Lib.hid fa; clear fa
  go_wp2_with (fail)
  refine (IsNeg_any m1 s1 c1 _).mono ?_
  rintro e w3 ⟨rfl, f3⟩
  have r1 := row_fresh H_r1.out f3
  have r2 := row_fresh H_r2.out f3
  have r3 := row_fresh H_r3.out f3
  have fa := fresh_trans H_fa.out f3
  clear H_r1 H_r2 H_r3 H_fa f3
  clear k0 k1 k2 k3 k4 k5
  obtain ⟨k0, k1, k2, k3, k4, k5⟩ := cells6 r1 r2
  have H_r1 := Lib.hid r1; clear r1
  have H_r2 := Lib.hid r2; clear r2
  have H_r3 := Lib.hid r3; clear r3
  have H_fa := Lib.hid fa; clear fa
  go_wp2_with (fail)
  refine (Scale_any m2 s2 c2 _ hs2).mono ?_
  rintro e w4 ⟨rfl, f4⟩
  have r1 := row_fresh H_r1.out f4
  have r2 := row_fresh H_r2.out f4
  have r3 := row_fresh H_r3.out f4
  have fa := fresh_trans H_fa.out f4
  clear H_r1 H_r2 H_r3 H_fa f4
  clear k0 k1 k2 k3 k4 k5
  obtain ⟨k0, k1, k2, k3, k4, k5⟩ := cells6 r1 r2
  have H_r1 := Lib.hid r1; clear r1
  have H_r2 := Lib.hid r2; clear r2
  have H_r3 := Lib.hid r3; clear r3
  have H_fa := Lib.hid fa; clear fa
  go_wp2_with (fail)
  refine (Scale_any m2 s2 c2 _ hs2).mono ?_
  rintro e w5 ⟨rfl, f5⟩
  have r1 := row_fresh H_r1.out f5
  have r2 := row_fresh H_r2.out f5
  have r3 := row_fresh H_r3.out f5
  have fa := fresh_trans H_fa.out f5
  clear H_r1 H_r2 H_r3 H_fa f5
  clear k0 k1 k2 k3 k4 k5
  obtain ⟨k0, k1, k2, k3, k4, k5⟩ := cells6 r1 r2
  have H_r1 := Lib.hid r1; clear r1
  have H_r2 := Lib.hid r2; clear r2
  have H_r3 := Lib.hid r3; clear r3
  have H_fa := Lib.hid fa; clear fa
  go_wp2_with (fail)
  refine (H_hlsh.out _ H_fa.out).mono ?_
  rintro e w6 ⟨rfl, hs⟩
  subst hs
  go_wp2_with (fail)
  obtain ⟨ae, hae⟩ := H_hE.out.fresh H_fa.out
  have hne : 0 ≠ g + 1 + 1 := by
    obtain ⟨_, h0⟩ := H_hE.out
    have := ErrIs.lt h0
    have := H_hg.out
    omega
  have p0 := row_cell H_r3.out 0
  have p1 := row_cell H_r3.out 1
  have p2 := row_cell H_r3.out 2
  simp at p0 p1 p2
  have z0 : w6.frozen? ⟨g + 1 + 1, 0, none⟩ = false := frozen_of_row _ _ _ _ _ H_r3.out
  have z1 : w6.frozen? ⟨g + 1 + 1, 1, none⟩ = false := frozen_of_row _ _ _ _ _ H_r3.out
  have z2 : w6.frozen? ⟨g + 1 + 1, 2, none⟩ = false := frozen_of_row _ _ _ _ _ H_r3.out
  go_wp2_with (fail)
  go_region_held3 (fun (w' : World) => w'.cell? ⟨0, 0, none⟩ = some (.iface 91 (.pointer (some ae)))) (first | exact hae | exact far3 hne hae) (fail)
  go_wp2
  refine bodyPost_ret (results_cell_tmp_row rfl _ _ (g + 1 + 1) 50 #[.bool false, .int .i8 0, .int .u64 0] (0, 0) _ rfl (row_set (row_set (row_set H_r3.out))) Tryz.underlying50 rfl (by kernel_rfl)) rfl ?_
  exact ⟨ae, rfl, Fresh.set3 (H_fa.out.drewN 1) (by have := H_hg.out; omega)⟩

set_option maxRecDepth 20000 in
set_option maxHeartbeats 4000000 in
theorem addFint_gt_addno (m1 m2 : Bool) (c1 s1 c2 s2 : Nat) (w : World) (hP : Pow10s w) (hE : ErrIs w) (ms : Nat) (hs1 : s1 ≤ 19) (hs2 : s2 ≤ 19) (hc1 : c1 ≤ 9999999999999999999) (hc2 : c2 ≤ 9999999999999999999) (hsc : s2 < s1) (hfit : c2 * 10 ^ (s1 - s2) ≤ 9999999999999999999) (hsg : m1 = m2) (hsum : ¬ c1 + c2 * 10 ^ (s1 - s2) ≤ 9999999999999999999) :
    Calls Tryz.prog 85 #[gd m1 s1 c1, gd m2 s2 c2, .int .i64 ms] w (ClampErr w) := by
  have t1 : decide ((s2 : Int) < (s1 : Int)) = true := by simp; omega
  have hlsh := fun W (hW : Fresh w W) => flsh_any c2 (s1 - s2) W (hP.fresh hW) hc2 (by omega)
  obtain ⟨k, hk⟩ : ∃ k, k = s1 - s2 := ⟨_, rfl⟩
  have hkI : (s1 : Int) - (s2 : Int) = (k : Int) := by omega
  have hkw : IntKind.i64.wrap (k : Int) = (k : Int) := wrap_nat k (by omega)
  rw [← hk] at hlsh hfit hsum
  obtain ⟨b, hb⟩ : ∃ b, b = c2 * 10 ^ k := ⟨_, rfl⟩
  rw [← hb] at hlsh hfit hsum
  have hm : mulTo b = .tuple #[.int .u64 b, .bool true] := by unfold mulTo; rw [if_pos hfit]
  rw [hm] at hlsh
  clear hm hb hk
  subst hsg
  have hadd := fun W => fadd_any c1 b W hc1 hfit
  obtain ⟨q, hq⟩ : ∃ q, q = c1 + b := ⟨_, rfl⟩
  rw [← hq] at hadd hsum
  have hm2 : mulTo q = .tuple #[.int .u64 0, .bool false] := by unfold mulTo; rw [if_neg hsum]
  rw [hm2] at hadd
  clear hm2 hq hsum
  obtain ⟨g, hg⟩ : ∃ g, g = w.heap.size := ⟨_, rfl⟩
  have bx := boxes3 w #[.bool m1, .int .i8 s1, .int .u64 c1] #[.bool m1, .int .i8 s2, .int .u64 c2] #[.bool false, .int .i8 0, .int .u64 0] 50 50 50 g hg
  have H_bx := Lib.hid bx; clear bx
  have H_hP := Lib.hid hP; clear hP
  have H_hE := Lib.hid hE; clear hE
  have H_hlsh := Lib.hid hlsh; clear hlsh
  have H_hadd := Lib.hid hadd; clear hadd
  go_enter Tryz.func85, Tryz.ntmps85
  go_wp2_with (fail)
  generalize hw1 : ((w.alloc _).alloc _).alloc _ = w1
  rw [← hg]
  obtain ⟨r1, r2, r3, fa, _⟩ := H_bx.out w1 hw1
  obtain ⟨k0, k1, k2, k3, k4, k5⟩ := cells6 r1 r2
  have H_r1 := Lib.hid r1; clear r1
  have H_r2 := Lib.hid r2; clear r2
  have H_r3 := Lib.hid r3; clear r3
  have H_fa := Lib.hid fa; clear fa
  have H_hw1 := Lib.hid hw1; clear hw1
  have H_hg := Lib.hid hg; clear hg
  go_wp2_with (fail)
  refine (Scale_any m1 s1 c1 _ hs1).mono ?_
  rintro e w2 ⟨rfl, f2⟩
  have r1 := row_fresh H_r1.out f2
  have r2 := row_fresh H_r2.out f2
  have r3 := row_fresh H_r3.out f2
  have fa := fresh_trans H_fa.out f2
  clear H_r1 H_r2 H_r3 H_fa f2
  clear k0 k1 k2 k3 k4 k5
  obtain ⟨k0, k1, k2, k3, k4, k5⟩ := cells6 r1 r2
  have H_r1 := Lib.hid r1; clear r1
  have H_r2 := Lib.hid r2; clear r2
  have H_r3 := Lib.hid r3; clear r3
  have H_fa := Lib.hid fa; clear fa
  go_wp2_with (fail)
  refine (IsNeg_any m1 s1 c1 _).mono ?_
  rintro e w3 ⟨rfl, f3⟩
  have r1 := row_fresh H_r1.out f3
  have r2 := row_fresh H_r2.out f3
  have r3 := row_fresh H_r3.out f3
  have fa := fresh_trans H_fa.out f3
  clear H_r1 H_r2 H_r3 H_fa f3
  clear k0 k1 k2 k3 k4 k5
  obtain ⟨k0, k1, k2, k3, k4, k5⟩ := cells6 r1 r2
  have H_r1 := Lib.hid r1; clear r1
  have H_r2 := Lib.hid r2; clear r2
  have H_r3 := Lib.hid r3; clear r3
  have H_fa := Lib.hid fa; clear fa
  go_wp2_with (fail)
  refine (Scale_any m1 s2 c2 _ hs2).mono ?_
  rintro e w4 ⟨rfl, f4⟩
  have r1 := row_fresh H_r1.out f4
  have r2 := row_fresh H_r2.out f4
  have r3 := row_fresh H_r3.out f4
  have fa := fresh_trans H_fa.out f4
  clear H_r1 H_r2 H_r3 H_fa f4
  clear k0 k1 k2 k3 k4 k5
  obtain ⟨k0, k1, k2, k3, k4, k5⟩ := cells6 r1 r2
  have H_r1 := Lib.hid r1; clear r1
  have H_r2 := Lib.hid r2; clear r2
  have H_r3 := Lib.hid r3; clear r3
  have H_fa := Lib.hid fa; clear fa
  go_wp2_with (fail)
  refine (Scale_any m1 s2 c2 _ hs2).mono ?_
  rintro e w5 ⟨rfl, f5⟩
  have r1 := row_fresh H_r1.out f5
  have r2 := row_fresh H_r2.out f5
  have r3 := row_fresh H_r3.out f5
  have fa := fresh_trans H_fa.out f5
  clear H_r1 H_r2 H_r3 H_fa f5
  clear k0 k1 k2 k3 k4 k5
  obtain ⟨k0, k1, k2, k3, k4, k5⟩ := cells6 r1 r2
  have H_r1 := Lib.hid r1; clear r1
  have H_r2 := Lib.hid r2; clear r2
  have H_r3 := Lib.hid r3; clear r3
  have H_fa := Lib.hid fa; clear fa
  go_wp2_with (fail)
  refine (H_hlsh.out _ H_fa.out).mono ?_
  rintro e w6 ⟨rfl, hs⟩
  subst hs
  go_wp2_with (fail)
  refine (IsNeg_any m1 s2 c2 _).mono ?_
  rintro e w7 ⟨rfl, f7⟩
  have r1 := row_fresh H_r1.out f7
  have r2 := row_fresh H_r2.out f7
  have r3 := row_fresh H_r3.out f7
  have fa := fresh_trans H_fa.out f7
  clear H_r1 H_r2 H_r3 H_fa f7
  clear k0 k1 k2 k3 k4 k5
  obtain ⟨k0, k1, k2, k3, k4, k5⟩ := cells6 r1 r2
  have H_r1 := Lib.hid r1; clear r1
  have H_r2 := Lib.hid r2; clear r2
  have H_r3 := Lib.hid r3; clear r3
  have H_fa := Lib.hid fa; clear fa
  go_wp2_with (fail)
  refine (H_hadd.out _).mono ?_
  rintro e w8 ⟨rfl, hs⟩
  subst hs
  go_wp2_with (fail)
  obtain ⟨ae, hae⟩ := H_hE.out.fresh H_fa.out
  have hne : 0 ≠ g + 1 + 1 := by
    obtain ⟨_, h0⟩ := H_hE.out
    have := ErrIs.lt h0
    have := H_hg.out
    omega
  have p0 := row_cell H_r3.out 0
  have p1 := row_cell H_r3.out 1
  have p2 := row_cell H_r3.out 2
  simp at p0 p1 p2
  have z0 : w8.frozen? ⟨g + 1 + 1, 0, none⟩ = false := frozen_of_row _ _ _ _ _ H_r3.out
  have z1 : w8.frozen? ⟨g + 1 + 1, 1, none⟩ = false := frozen_of_row _ _ _ _ _ H_r3.out
  have z2 : w8.frozen? ⟨g + 1 + 1, 2, none⟩ = false := frozen_of_row _ _ _ _ _ H_r3.out
  go_wp2_with (fail)
  go_region_held3 (fun (w' : World) => w'.cell? ⟨0, 0, none⟩ = some (.iface 91 (.pointer (some ae)))) (first | exact hae | exact far3 hne hae) (fail)
  go_wp2
  refine bodyPost_ret (results_cell_tmp_row rfl _ _ (g + 1 + 1) 50 #[.bool false, .int .i8 0, .int .u64 0] (0, 0) _ rfl (row_set (row_set (row_set H_r3.out))) Tryz.underlying50 rfl (by kernel_rfl)) rfl ?_
  exact ⟨ae, rfl, Fresh.set3 (H_fa.out.drewN 1) (by have := H_hg.out; omega)⟩

set_option maxRecDepth 20000 in
set_option maxHeartbeats 4000000 in
theorem addFint_gt_same (m1 m2 nz : Bool) (c1 s1 c2 s2 : Nat) (w : World) (hP : Pow10s w) (ms : Nat) (hs1 : s1 ≤ 19) (hs2 : s2 ≤ 19) (hc1 : c1 ≤ 9999999999999999999) (hc2 : c2 ≤ 9999999999999999999) (hsc : s2 < s1) (hfit : c2 * 10 ^ (s1 - s2) ≤ 9999999999999999999) (hsg : m1 = m2) (hsum : c1 + c2 * 10 ^ (s1 - s2) ≤ 9999999999999999999)
    (sz cz : Nat) (Pv : Value → Prop) (hnf : ∀ W, Fresh w W → Calls Tryz.prog 100 #[.bool m1, .int .u64 (c1 + c2 * 10 ^ (s1 - s2) : Nat), .int .i64 s1, .int .i64 ms] W (DOut W nz sz cz Pv)) :
    Calls Tryz.prog 85 #[gd m1 s1 c1, gd m2 s2 c2, .int .i64 ms] w (DOut w nz sz cz Pv) := by
  have t1 : decide ((s2 : Int) < (s1 : Int)) = true := by simp; omega
  have hlsh := fun W (hW : Fresh w W) => flsh_any c2 (s1 - s2) W (hP.fresh hW) hc2 (by omega)
  obtain ⟨k, hk⟩ : ∃ k, k = s1 - s2 := ⟨_, rfl⟩
  have hkI : (s1 : Int) - (s2 : Int) = (k : Int) := by omega
  have hkw : IntKind.i64.wrap (k : Int) = (k : Int) := wrap_nat k (by omega)
  rw [← hk] at hlsh hfit hsum hnf
  obtain ⟨b, hb⟩ : ∃ b, b = c2 * 10 ^ k := ⟨_, rfl⟩
  rw [← hb] at hlsh hfit hsum hnf
  have hm : mulTo b = .tuple #[.int .u64 b, .bool true] := by unfold mulTo; rw [if_pos hfit]
  rw [hm] at hlsh
  clear hm hb hk
  subst hsg
  have hadd := fun W => fadd_any c1 b W hc1 hfit
  obtain ⟨q, hq⟩ : ∃ q, q = c1 + b := ⟨_, rfl⟩
  rw [← hq] at hadd hsum hnf
  have hm2 : mulTo q = .tuple #[.int .u64 q, .bool true] := by unfold mulTo; rw [if_pos hsum]
  rw [hm2] at hadd
  clear hm2 hq hsum
  obtain ⟨g, hg⟩ : ∃ g, g = w.heap.size := ⟨_, rfl⟩
  have bx := boxes3 w #[.bool m1, .int .i8 s1, .int .u64 c1] #[.bool m1, .int .i8 s2, .int .u64 c2] #[.bool false, .int .i8 0, .int .u64 0] 50 50 50 g hg
  have H_bx := Lib.hid bx; clear bx
  have H_hP := Lib.hid hP; clear hP
  have H_hnf := Lib.hid hnf; clear hnf
  have H_hlsh := Lib.hid hlsh; clear hlsh
  have H_hadd := Lib.hid hadd; clear hadd
  go_enter Tryz.func85, Tryz.ntmps85
  go_wp2_with (fail)
  generalize hw1 : ((w.alloc _).alloc _).alloc _ = w1
  rw [← hg]
  obtain ⟨r1, r2, r3, fa, _⟩ := H_bx.out w1 hw1
  obtain ⟨k0, k1, k2, k3, k4, k5⟩ := cells6 r1 r2
  have H_r1 := Lib.hid r1; clear r1
  have H_r2 := Lib.hid r2; clear r2
  have H_r3 := Lib.hid r3; clear r3
  have H_fa := Lib.hid fa; clear fa
  have H_hw1 := Lib.hid hw1; clear hw1
  have H_hg := Lib.hid hg; clear hg
  go_wp2_with (fail)
  refine (Scale_any m1 s1 c1 _ hs1).mono ?_
  rintro e w2 ⟨rfl, f2⟩
  have r1 := row_fresh H_r1.out f2
  have r2 := row_fresh H_r2.out f2
  have r3 := row_fresh H_r3.out f2
  have fa := fresh_trans H_fa.out f2
  clear H_r1 H_r2 H_r3 H_fa f2
  clear k0 k1 k2 k3 k4 k5
  obtain ⟨k0, k1, k2, k3, k4, k5⟩ := cells6 r1 r2
  have H_r1 := Lib.hid r1; clear r1
  have H_r2 := Lib.hid r2; clear r2
  have H_r3 := Lib.hid r3; clear r3
  have H_fa := Lib.hid fa; clear fa
  go_wp2_with (fail)
  refine (IsNeg_any m1 s1 c1 _).mono ?_
  rintro e w3 ⟨rfl, f3⟩
  have r1 := row_fresh H_r1.out f3
  have r2 := row_fresh H_r2.out f3
  have r3 := row_fresh H_r3.out f3
  have fa := fresh_trans H_fa.out f3
  clear H_r1 H_r2 H_r3 H_fa f3
  clear k0 k1 k2 k3 k4 k5
  obtain ⟨k0, k1, k2, k3, k4, k5⟩ := cells6 r1 r2
  have H_r1 := Lib.hid r1; clear r1
  have H_r2 := Lib.hid r2; clear r2
  have H_r3 := Lib.hid r3; clear r3
  have H_fa := Lib.hid fa; clear fa
  go_wp2_with (fail)
  refine (Scale_any m1 s2 c2 _ hs2).mono ?_
  rintro e w4 ⟨rfl, f4⟩
  have r1 := row_fresh H_r1.out f4
  have r2 := row_fresh H_r2.out f4
  have r3 := row_fresh H_r3.out f4
  have fa := fresh_trans H_fa.out f4
  clear H_r1 H_r2 H_r3 H_fa f4
  clear k0 k1 k2 k3 k4 k5
  obtain ⟨k0, k1, k2, k3, k4, k5⟩ := cells6 r1 r2
  have H_r1 := Lib.hid r1; clear r1
  have H_r2 := Lib.hid r2; clear r2
  have H_r3 := Lib.hid r3; clear r3
  have H_fa := Lib.hid fa; clear fa
  go_wp2_with (fail)
  refine (Scale_any m1 s2 c2 _ hs2).mono ?_
  rintro e w5 ⟨rfl, f5⟩
  have r1 := row_fresh H_r1.out f5
  have r2 := row_fresh H_r2.out f5
  have r3 := row_fresh H_r3.out f5
  have fa := fresh_trans H_fa.out f5
  clear H_r1 H_r2 H_r3 H_fa f5
  clear k0 k1 k2 k3 k4 k5
  obtain ⟨k0, k1, k2, k3, k4, k5⟩ := cells6 r1 r2
  have H_r1 := Lib.hid r1; clear r1
  have H_r2 := Lib.hid r2; clear r2
  have H_r3 := Lib.hid r3; clear r3
  have H_fa := Lib.hid fa; clear fa
  go_wp2_with (fail)
  refine (H_hlsh.out _ H_fa.out).mono ?_
  rintro e w6 ⟨rfl, hs⟩
  subst hs
  go_wp2_with (fail)
  refine (IsNeg_any m1 s2 c2 _).mono ?_
  rintro e w7 ⟨rfl, f7⟩
  have r1 := row_fresh H_r1.out f7
  have r2 := row_fresh H_r2.out f7
  have r3 := row_fresh H_r3.out f7
  have fa := fresh_trans H_fa.out f7
  clear H_r1 H_r2 H_r3 H_fa f7
  clear k0 k1 k2 k3 k4 k5
  obtain ⟨k0, k1, k2, k3, k4, k5⟩ := cells6 r1 r2
  have H_r1 := Lib.hid r1; clear r1
  have H_r2 := Lib.hid r2; clear r2
  have H_r3 := Lib.hid r3; clear r3
  have H_fa := Lib.hid fa; clear fa
  go_wp2_with (fail)
  refine (H_hadd.out _).mono ?_
  rintro e w8 ⟨rfl, hs⟩
  subst hs
  go_wp2_with (fail)
  refine (H_hnf.out _ H_fa.out).mono ?_
  rintro e w9 ⟨ev, rfl, hev, f9⟩
  have r3 := row_fresh H_r3.out f9
  have p0 := row_cell r3 0
  have p1 := row_cell r3 1
  have p2 := row_cell r3 2
  simp at p0 p1 p2
  have z0 : w9.frozen? ⟨g + 1 + 1, 0, none⟩ = false := frozen_of_row _ _ _ _ _ r3
  have z1 : w9.frozen? ⟨g + 1 + 1, 1, none⟩ = false := frozen_of_row _ _ _ _ _ r3
  have z2 : w9.frozen? ⟨g + 1 + 1, 2, none⟩ = false := frozen_of_row _ _ _ _ _ r3
  have fa := fresh_trans H_fa.out f9
  clear H_r3 H_fa f9 k0 k1 k2 k3 k4 k5
  have H_r3 := Lib.hid r3; clear r3
  have H_fa := Lib.hid fa; clear fa
  have H_hev := Lib.hid hev; clear hev
  go_wp2_with (fail)
  refine bodyPost_ret (results_cell_tmp_row rfl _ _ (g + 1 + 1) 50 #[.bool nz, .int .i8 sz, .int .u64 cz] (0, 0) _ rfl (row_set (row_set (row_set H_r3.out))) Tryz.underlying50 rfl (by kernel_rfl)) rfl ?_
  exact ⟨ev, rfl, H_hev.out, Fresh.set3 H_fa.out (by have := H_hg.out; omega)⟩

set_option maxRecDepth 20000 in
set_option maxHeartbeats 4000000 in
theorem addFint_gt_less (m1 m2 nz : Bool) (c1 s1 c2 s2 : Nat) (w : World) (hP : Pow10s w) (ms : Nat) (hs1 : s1 ≤ 19) (hs2 : s2 ≤ 19) (hc1 : c1 ≤ 9999999999999999999) (hc2 : c2 ≤ 9999999999999999999) (hsc : s2 < s1) (hfit : c2 * 10 ^ (s1 - s2) ≤ 9999999999999999999) (hsg : m1 ≠ m2) (hsum : c1 < c2 * 10 ^ (s1 - s2))
    (sz cz : Nat) (Pv : Value → Prop) (hnf : ∀ W, Fresh w W → Calls Tryz.prog 100 #[.bool m2, .int .u64 (adf (c1) (c2 * 10 ^ (s1 - s2)) : Nat), .int .i64 s1, .int .i64 ms] W (DOut W nz sz cz Pv)) :
    Calls Tryz.prog 85 #[gd m1 s1 c1, gd m2 s2 c2, .int .i64 ms] w (DOut w nz sz cz Pv) := by
  have t1 : decide ((s2 : Int) < (s1 : Int)) = true := by simp; omega
  have hlsh := fun W (hW : Fresh w W) => flsh_any c2 (s1 - s2) W (hP.fresh hW) hc2 (by omega)
  obtain ⟨k, hk⟩ : ∃ k, k = s1 - s2 := ⟨_, rfl⟩
  have hkI : (s1 : Int) - (s2 : Int) = (k : Int) := by omega
  have hkw : IntKind.i64.wrap (k : Int) = (k : Int) := wrap_nat k (by omega)
  rw [← hk] at hlsh hfit hsum hnf
  obtain ⟨b, hb⟩ : ∃ b, b = c2 * 10 ^ k := ⟨_, rfl⟩
  rw [← hb] at hlsh hfit hsum hnf
  have hm : mulTo b = .tuple #[.int .u64 b, .bool true] := by unfold mulTo; rw [if_pos hfit]
  rw [hm] at hlsh
  clear hm hb hk
  have t4 : (m1 == m2) = false := by simpa using hsg
  have t5 : decide ((c1 : Int) < (b : Int)) = true := by simp; omega
  have hsub := fun W => fsubAbs_any c1 b W hc1 hfit
  generalize adf c1 b = q at *
  have H_hsg := Lib.hid hsg
  clear hsg
  obtain ⟨g, hg⟩ : ∃ g, g = w.heap.size := ⟨_, rfl⟩
  have bx := boxes3 w #[.bool m1, .int .i8 s1, .int .u64 c1] #[.bool m2, .int .i8 s2, .int .u64 c2] #[.bool false, .int .i8 0, .int .u64 0] 50 50 50 g hg
  have H_bx := Lib.hid bx; clear bx
  have H_hP := Lib.hid hP; clear hP
  have H_hnf := Lib.hid hnf; clear hnf
  have H_hlsh := Lib.hid hlsh; clear hlsh
  have H_hsub := Lib.hid hsub; clear hsub
  go_enter Tryz.func85, Tryz.ntmps85
  go_wp2_with (fail)
  generalize hw1 : ((w.alloc _).alloc _).alloc _ = w1
  rw [← hg]
  obtain ⟨r1, r2, r3, fa, _⟩ := H_bx.out w1 hw1
  obtain ⟨k0, k1, k2, k3, k4, k5⟩ := cells6 r1 r2
  have H_r1 := Lib.hid r1; clear r1
  have H_r2 := Lib.hid r2; clear r2
  have H_r3 := Lib.hid r3; clear r3
  have H_fa := Lib.hid fa; clear fa
  have H_hw1 := Lib.hid hw1; clear hw1
  have H_hg := Lib.hid hg; clear hg
  go_wp2_with (fail)
  refine (Scale_any m1 s1 c1 _ hs1).mono ?_
  rintro e w2 ⟨rfl, f2⟩
  have r1 := row_fresh H_r1.out f2
  have r2 := row_fresh H_r2.out f2
  have r3 := row_fresh H_r3.out f2
  have fa := fresh_trans H_fa.out f2
  clear H_r1 H_r2 H_r3 H_fa f2
  clear k0 k1 k2 k3 k4 k5
  obtain ⟨k0, k1, k2, k3, k4, k5⟩ := cells6 r1 r2
  have H_r1 := Lib.hid r1; clear r1
  have H_r2 := Lib.hid r2; clear r2
  have H_r3 := Lib.hid r3; clear r3
  have H_fa := Lib.hid fa; clear fa
  go_wp2_with (fail)
  refine (IsNeg_any m1 s1 c1 _).mono ?_
  rintro e w3 ⟨rfl, f3⟩
  have r1 := row_fresh H_r1.out f3
  have r2 := row_fresh H_r2.out f3
  have r3 := row_fresh H_r3.out f3
  have fa := fresh_trans H_fa.out f3
  clear H_r1 H_r2 H_r3 H_fa f3
  clear k0 k1 k2 k3 k4 k5
  obtain ⟨k0, k1, k2, k3, k4, k5⟩ := cells6 r1 r2
  have H_r1 := Lib.hid r1; clear r1
  have H_r2 := Lib.hid r2; clear r2
  have H_r3 := Lib.hid r3; clear r3
  have H_fa := Lib.hid fa; clear fa
  go_wp2_with (fail)
  refine (Scale_any m2 s2 c2 _ hs2).mono ?_
  rintro e w4 ⟨rfl, f4⟩
  have r1 := row_fresh H_r1.out f4
  have r2 := row_fresh H_r2.out f4
  have r3 := row_fresh H_r3.out f4
  have fa := fresh_trans H_fa.out f4
  clear H_r1 H_r2 H_r3 H_fa f4
  clear k0 k1 k2 k3 k4 k5
  obtain ⟨k0, k1, k2, k3, k4, k5⟩ := cells6 r1 r2
  have H_r1 := Lib.hid r1; clear r1
  have H_r2 := Lib.hid r2; clear r2
  have H_r3 := Lib.hid r3; clear r3
  have H_fa := Lib.hid fa; clear fa
  go_wp2_with (fail)
  refine (Scale_any m2 s2 c2 _ hs2).mono ?_
  rintro e w5 ⟨rfl, f5⟩
  have r1 := row_fresh H_r1.out f5
  have r2 := row_fresh H_r2.out f5
  have r3 := row_fresh H_r3.out f5
  have fa := fresh_trans H_fa.out f5
  clear H_r1 H_r2 H_r3 H_fa f5
  clear k0 k1 k2 k3 k4 k5
  obtain ⟨k0, k1, k2, k3, k4, k5⟩ := cells6 r1 r2
  have H_r1 := Lib.hid r1; clear r1
  have H_r2 := Lib.hid r2; clear r2
  have H_r3 := Lib.hid r3; clear r3
  have H_fa := Lib.hid fa; clear fa
  go_wp2_with (fail)
  refine (H_hlsh.out _ H_fa.out).mono ?_
  rintro e w6 ⟨rfl, hs⟩
  subst hs
  go_wp2_with (fail)
  refine (IsNeg_any m2 s2 c2 _).mono ?_
  rintro e w7 ⟨rfl, f7⟩
  have r1 := row_fresh H_r1.out f7
  have r2 := row_fresh H_r2.out f7
  have r3 := row_fresh H_r3.out f7
  have fa := fresh_trans H_fa.out f7
  clear H_r1 H_r2 H_r3 H_fa f7
  clear k0 k1 k2 k3 k4 k5
  obtain ⟨k0, k1, k2, k3, k4, k5⟩ := cells6 r1 r2
  have H_r1 := Lib.hid r1; clear r1
  have H_r2 := Lib.hid r2; clear r2
  have H_r3 := Lib.hid r3; clear r3
  have H_fa := Lib.hid fa; clear fa
  go_wp2_with (fail)
  refine (IsNeg_any m2 s2 c2 _).mono ?_
  rintro e w8 ⟨rfl, f8⟩
  have r1 := row_fresh H_r1.out f8
  have r2 := row_fresh H_r2.out f8
  have r3 := row_fresh H_r3.out f8
  have fa := fresh_trans H_fa.out f8
  clear H_r1 H_r2 H_r3 H_fa f8
  clear k0 k1 k2 k3 k4 k5
  obtain ⟨k0, k1, k2, k3, k4, k5⟩ := cells6 r1 r2
  have H_r1 := Lib.hid r1; clear r1
  have H_r2 := Lib.hid r2; clear r2
  have H_r3 := Lib.hid r3; clear r3
  have H_fa := Lib.hid fa; clear fa
  go_wp2_with (fail)
  refine (H_hsub.out _).mono ?_
  rintro e w9 ⟨rfl, hs⟩
  subst hs
  go_wp2_with (fail)
  refine (H_hnf.out _ H_fa.out).mono ?_
  rintro e w10 ⟨ev, rfl, hev, f9⟩
  have r3 := row_fresh H_r3.out f9
  have p0 := row_cell r3 0
  have p1 := row_cell r3 1
  have p2 := row_cell r3 2
  simp at p0 p1 p2
  have z0 : w10.frozen? ⟨g + 1 + 1, 0, none⟩ = false := frozen_of_row _ _ _ _ _ r3
  have z1 : w10.frozen? ⟨g + 1 + 1, 1, none⟩ = false := frozen_of_row _ _ _ _ _ r3
  have z2 : w10.frozen? ⟨g + 1 + 1, 2, none⟩ = false := frozen_of_row _ _ _ _ _ r3
  have fa := fresh_trans H_fa.out f9
  clear H_r3 H_fa f9 k0 k1 k2 k3 k4 k5
  have H_r3 := Lib.hid r3; clear r3
  have H_fa := Lib.hid fa; clear fa
  have H_hev := Lib.hid hev; clear hev
  go_wp2_with (fail)
  refine bodyPost_ret (results_cell_tmp_row rfl _ _ (g + 1 + 1) 50 #[.bool nz, .int .i8 sz, .int .u64 cz] (0, 0) _ rfl (row_set (row_set (row_set H_r3.out))) Tryz.underlying50 rfl (by kernel_rfl)) rfl ?_
  exact ⟨ev, rfl, H_hev.out, Fresh.set3 H_fa.out (by have := H_hg.out; omega)⟩

set_option maxRecDepth 20000 in
set_option maxHeartbeats 4000000 in
theorem addFint_gt_more (m1 m2 nz : Bool) (c1 s1 c2 s2 : Nat) (w : World) (hP : Pow10s w) (ms : Nat) (hs1 : s1 ≤ 19) (hs2 : s2 ≤ 19) (hc1 : c1 ≤ 9999999999999999999) (hc2 : c2 ≤ 9999999999999999999) (hsc : s2 < s1) (hfit : c2 * 10 ^ (s1 - s2) ≤ 9999999999999999999) (hsg : m1 ≠ m2) (hsum : ¬ c1 < c2 * 10 ^ (s1 - s2))
    (sz cz : Nat) (Pv : Value → Prop) (hnf : ∀ W, Fresh w W → Calls Tryz.prog 100 #[.bool m1, .int .u64 (adf (c1) (c2 * 10 ^ (s1 - s2)) : Nat), .int .i64 s1, .int .i64 ms] W (DOut W nz sz cz Pv)) :
    Calls Tryz.prog 85 #[gd m1 s1 c1, gd m2 s2 c2, .int .i64 ms] w (DOut w nz sz cz Pv) := by
  have t1 : decide ((s2 : Int) < (s1 : Int)) = true := by simp; omega
  have hlsh := fun W (hW : Fresh w W) => flsh_any c2 (s1 - s2) W (hP.fresh hW) hc2 (by omega)
  obtain ⟨k, hk⟩ : ∃ k, k = s1 - s2 := ⟨_, rfl⟩
  have hkI : (s1 : Int) - (s2 : Int) = (k : Int) := by omega
  have hkw : IntKind.i64.wrap (k : Int) = (k : Int) := wrap_nat k (by omega)
  rw [← hk] at hlsh hfit hsum hnf
  obtain ⟨b, hb⟩ : ∃ b, b = c2 * 10 ^ k := ⟨_, rfl⟩
  rw [← hb] at hlsh hfit hsum hnf
  have hm : mulTo b = .tuple #[.int .u64 b, .bool true] := by unfold mulTo; rw [if_pos hfit]
  rw [hm] at hlsh
  clear hm hb hk
  have t4 : (m1 == m2) = false := by simpa using hsg
  have t5 : decide ((c1 : Int) < (b : Int)) = false := by simp; omega
  have hsub := fun W => fsubAbs_any c1 b W hc1 hfit
  generalize adf c1 b = q at *
  have H_hsg := Lib.hid hsg
  clear hsg
  obtain ⟨g, hg⟩ : ∃ g, g = w.heap.size := ⟨_, rfl⟩
  have bx := boxes3 w #[.bool m1, .int .i8 s1, .int .u64 c1] #[.bool m2, .int .i8 s2, .int .u64 c2] #[.bool false, .int .i8 0, .int .u64 0] 50 50 50 g hg
  have H_bx := Lib.hid bx; clear bx
  have H_hP := Lib.hid hP; clear hP
  have H_hnf := Lib.hid hnf; clear hnf
  have H_hlsh := Lib.hid hlsh; clear hlsh
  have H_hsub := Lib.hid hsub; clear hsub
  go_enter Tryz.func85, Tryz.ntmps85
  go_wp2_with (fail)
  generalize hw1 : ((w.alloc _).alloc _).alloc _ = w1
  rw [← hg]
  obtain ⟨r1, r2, r3, fa, _⟩ := H_bx.out w1 hw1
  obtain ⟨k0, k1, k2, k3, k4, k5⟩ := cells6 r1 r2
  have H_r1 := Lib.hid r1; clear r1
  have H_r2 := Lib.hid r2; clear r2
  have H_r3 := Lib.hid r3; clear r3
  have H_fa := Lib.hid fa; clear fa
  have H_hw1 := Lib.hid hw1; clear hw1
  have H_hg := Lib.hid hg; clear hg
  go_wp2_with (fail)
  refine (Scale_any m1 s1 c1 _ hs1).mono ?_
  rintro e w2 ⟨rfl, f2⟩
  have r1 := row_fresh H_r1.out f2
  have r2 := row_fresh H_r2.out f2
  have r3 := row_fresh H_r3.out f2
  have fa := fresh_trans H_fa.out f2
  clear H_r1 H_r2 H_r3 H_fa f2
  clear k0 k1 k2 k3 k4 k5
  obtain ⟨k0, k1, k2, k3, k4, k5⟩ := cells6 r1 r2
  have H_r1 := Lib.hid r1; clear r1
  have H_r2 := Lib.hid r2; clear r2
  have H_r3 := Lib.hid r3; clear r3
  have H_fa := Lib.hid fa; clear fa
  go_wp2_with (fail)
  refine (IsNeg_any m1 s1 c1 _).mono ?_
  rintro e w3 ⟨rfl, f3⟩
  have r1 := row_fresh H_r1.out f3
  have r2 := row_fresh H_r2.out f3
  have r3 := row_fresh H_r3.out f3
  have fa := fresh_trans H_fa.out f3
  clear H_r1 H_r2 H_r3 H_fa f3
  clear k0 k1 k2 k3 k4 k5
  obtain ⟨k0, k1, k2, k3, k4, k5⟩ := cells6 r1 r2
  have H_r1 := Lib.hid r1; clear r1
  have H_r2 := Lib.hid r2; clear r2
  have H_r3 := Lib.hid r3; clear r3
  have H_fa := Lib.hid fa; clear fa
  go_wp2_with (fail)
  refine (Scale_any m2 s2 c2 _ hs2).mono ?_
  rintro e w4 ⟨rfl, f4⟩
  have r1 := row_fresh H_r1.out f4
  have r2 := row_fresh H_r2.out f4
  have r3 := row_fresh H_r3.out f4
  have fa := fresh_trans H_fa.out f4
  clear H_r1 H_r2 H_r3 H_fa f4
  clear k0 k1 k2 k3 k4 k5
  obtain ⟨k0, k1, k2, k3, k4, k5⟩ := cells6 r1 r2
  have H_r1 := Lib.hid r1; clear r1
  have H_r2 := Lib.hid r2; clear r2
  have H_r3 := Lib.hid r3; clear r3
  have H_fa := Lib.hid fa; clear fa
  go_wp2_with (fail)
  refine (Scale_any m2 s2 c2 _ hs2).mono ?_
  rintro e w5 ⟨rfl, f5⟩
  have r1 := row_fresh H_r1.out f5
  have r2 := row_fresh H_r2.out f5
  have r3 := row_fresh H_r3.out f5
  have fa := fresh_trans H_fa.out f5
  clear H_r1 H_r2 H_r3 H_fa f5
  clear k0 k1 k2 k3 k4 k5
  obtain ⟨k0, k1, k2, k3, k4, k5⟩ := cells6 r1 r2
  have H_r1 := Lib.hid r1; clear r1
  have H_r2 := Lib.hid r2; clear r2
  have H_r3 := Lib.hid r3; clear r3
  have H_fa := Lib.hid fa; clear fa
  go_wp2_with (fail)
  refine (H_hlsh.out _ H_fa.out).mono ?_
  rintro e w6 ⟨rfl, hs⟩
  subst hs
  go_wp2_with (fail)
  refine (IsNeg_any m2 s2 c2 _).mono ?_
  rintro e w7 ⟨rfl, f7⟩
  have r1 := row_fresh H_r1.out f7
  have r2 := row_fresh H_r2.out f7
  have r3 := row_fresh H_r3.out f7
  have fa := fresh_trans H_fa.out f7
  clear H_r1 H_r2 H_r3 H_fa f7
  clear k0 k1 k2 k3 k4 k5
  obtain ⟨k0, k1, k2, k3, k4, k5⟩ := cells6 r1 r2
  have H_r1 := Lib.hid r1; clear r1
  have H_r2 := Lib.hid r2; clear r2
  have H_r3 := Lib.hid r3; clear r3
  have H_fa := Lib.hid fa; clear fa
  go_wp2_with (fail)
  refine (H_hsub.out _).mono ?_
  rintro e w8 ⟨rfl, hs⟩
  subst hs
  go_wp2_with (fail)
  refine (H_hnf.out _ H_fa.out).mono ?_
  rintro e w9 ⟨ev, rfl, hev, f9⟩
  have r3 := row_fresh H_r3.out f9
  have p0 := row_cell r3 0
  have p1 := row_cell r3 1
  have p2 := row_cell r3 2
  simp at p0 p1 p2
  have z0 : w9.frozen? ⟨g + 1 + 1, 0, none⟩ = false := frozen_of_row _ _ _ _ _ r3
  have z1 : w9.frozen? ⟨g + 1 + 1, 1, none⟩ = false := frozen_of_row _ _ _ _ _ r3
  have z2 : w9.frozen? ⟨g + 1 + 1, 2, none⟩ = false := frozen_of_row _ _ _ _ _ r3
  have fa := fresh_trans H_fa.out f9
  clear H_r3 H_fa f9 k0 k1 k2 k3 k4 k5
  have H_r3 := Lib.hid r3; clear r3
  have H_fa := Lib.hid fa; clear fa
  have H_hev := Lib.hid hev; clear hev
  go_wp2_with (fail)
  refine bodyPost_ret (results_cell_tmp_row rfl _ _ (g + 1 + 1) 50 #[.bool nz, .int .i8 sz, .int .u64 cz] (0, 0) _ rfl (row_set (row_set (row_set H_r3.out))) Tryz.underlying50 rfl (by kernel_rfl)) rfl ?_
  exact ⟨ev, rfl, H_hev.out, Fresh.set3 H_fa.out (by have := H_hg.out; omega)⟩

set_option maxRecDepth 20000 in
set_option maxHeartbeats 4000000 in
theorem addFint_eq_addno (m1 m2 : Bool) (c1 s1 c2 s2 : Nat) (w : World) (hP : Pow10s w) (hE : ErrIs w) (ms : Nat) (hs1 : s1 ≤ 19) (hs2 : s2 ≤ 19) (hc1 : c1 ≤ 9999999999999999999) (hc2 : c2 ≤ 9999999999999999999) (hsc : s1 = s2) (hsg : m1 = m2) (hsum : ¬ c1 + c2 ≤ 9999999999999999999) :
    Calls Tryz.prog 85 #[gd m1 s1 c1, gd m2 s2 c2, .int .i64 ms] w (ClampErr w) := by
  subst hsc
  have t1 : decide ((s1 : Int) < (s1 : Int)) = false := by simp
  subst hsg
  have hadd := fun W => fadd_any c1 c2 W hc1 hc2
  obtain ⟨q, hq⟩ : ∃ q, q = c1 + c2 := ⟨_, rfl⟩
  rw [← hq] at hadd hsum
  have hm2 : mulTo q = .tuple #[.int .u64 0, .bool false] := by unfold mulTo; rw [if_neg hsum]
  rw [hm2] at hadd
  clear hm2 hq hsum
  obtain ⟨g, hg⟩ : ∃ g, g = w.heap.size := ⟨_, rfl⟩
  have bx := boxes3 w #[.bool m1, .int .i8 s1, .int .u64 c1] #[.bool m1, .int .i8 s1, .int .u64 c2] #[.bool false, .int .i8 0, .int .u64 0] 50 50 50 g hg
  have H_bx := Lib.hid bx; clear bx
  have H_hP := Lib.hid hP; clear hP
  have H_hE := Lib.hid hE; clear hE
  have H_hadd := Lib.hid hadd; clear hadd
  go_enter Tryz.func85, Tryz.ntmps85
  go_wp2_with (fail)
  generalize hw1 : ((w.alloc _).alloc _).alloc _ = w1
  rw [← hg]
  obtain ⟨r1, r2, r3, fa, _⟩ := H_bx.out w1 hw1
  obtain ⟨k0, k1, k2, k3, k4, k5⟩ := cells6 r1 r2
  have H_r1 := Lib.hid r1; clear r1
  have H_r2 := Lib.hid r2; clear r2
  have H_r3 := Lib.hid r3; clear r3
  have H_fa := Lib.hid fa; clear fa
  have H_hw1 := Lib.hid hw1; clear hw1
  have H_hg := Lib.hid hg; clear hg
  go_wp2_with (fail)
  refine (Scale_any m1 s1 c1 _ hs1).mono ?_
  rintro e w2 ⟨rfl, f2⟩
  have r1 := row_fresh H_r1.out f2
  have r2 := row_fresh H_r2.out f2
  have r3 := row_fresh H_r3.out f2
  have fa := fresh_trans H_fa.out f2
  clear H_r1 H_r2 H_r3 H_fa f2
  clear k0 k1 k2 k3 k4 k5
  obtain ⟨k0, k1, k2, k3, k4, k5⟩ := cells6 r1 r2
  have H_r1 := Lib.hid r1; clear r1
  have H_r2 := Lib.hid r2; clear r2
  have H_r3 := Lib.hid r3; clear r3
  have H_fa := Lib.hid fa; clear fa
  go_wp2_with (fail)
  refine (IsNeg_any m1 s1 c1 _).mono ?_
  rintro e w3 ⟨rfl, f3⟩
  have r1 := row_fresh H_r1.out f3
  have r2 := row_fresh H_r2.out f3
  have r3 := row_fresh H_r3.out f3
  have fa := fresh_trans H_fa.out f3
  clear H_r1 H_r2 H_r3 H_fa f3
  clear k0 k1 k2 k3 k4 k5
  obtain ⟨k0, k1, k2, k3, k4, k5⟩ := cells6 r1 r2
  have H_r1 := Lib.hid r1; clear r1
  have H_r2 := Lib.hid r2; clear r2
  have H_r3 := Lib.hid r3; clear r3
  have H_fa := Lib.hid fa; clear fa
  go_wp2_with (fail)
  refine (Scale_any m1 s1 c2 _ hs1).mono ?_
  rintro e w4 ⟨rfl, f4⟩
  have r1 := row_fresh H_r1.out f4
  have r2 := row_fresh H_r2.out f4
  have r3 := row_fresh H_r3.out f4
  have fa := fresh_trans H_fa.out f4
  clear H_r1 H_r2 H_r3 H_fa f4
  clear k0 k1 k2 k3 k4 k5
  obtain ⟨k0, k1, k2, k3, k4, k5⟩ := cells6 r1 r2
  have H_r1 := Lib.hid r1; clear r1
  have H_r2 := Lib.hid r2; clear r2
  have H_r3 := Lib.hid r3; clear r3
  have H_fa := Lib.hid fa; clear fa
  go_wp2_with (fail)
  refine (Scale_any m1 s1 c2 _ hs1).mono ?_
  rintro e w5 ⟨rfl, f5⟩
  have r1 := row_fresh H_r1.out f5
  have r2 := row_fresh H_r2.out f5
  have r3 := row_fresh H_r3.out f5
  have fa := fresh_trans H_fa.out f5
  clear H_r1 H_r2 H_r3 H_fa f5
  clear k0 k1 k2 k3 k4 k5
  obtain ⟨k0, k1, k2, k3, k4, k5⟩ := cells6 r1 r2
  have H_r1 := Lib.hid r1; clear r1
  have H_r2 := Lib.hid r2; clear r2
  have H_r3 := Lib.hid r3; clear r3
  have H_fa := Lib.hid fa; clear fa
  go_wp2_with (fail)
  refine (IsNeg_any m1 s1 c2 _).mono ?_
  rintro e w6 ⟨rfl, f6⟩
  have r1 := row_fresh H_r1.out f6
  have r2 := row_fresh H_r2.out f6
  have r3 := row_fresh H_r3.out f6
  have fa := fresh_trans H_fa.out f6
  clear H_r1 H_r2 H_r3 H_fa f6
  clear k0 k1 k2 k3 k4 k5
  obtain ⟨k0, k1, k2, k3, k4, k5⟩ := cells6 r1 r2
  have H_r1 := Lib.hid r1; clear r1
  have H_r2 := Lib.hid r2; clear r2
  have H_r3 := Lib.hid r3; clear r3
  have H_fa := Lib.hid fa; clear fa
  go_wp2_with (fail)
  refine (H_hadd.out _).mono ?_
  rintro e w7 ⟨rfl, hs⟩
  subst hs
  go_wp2_with (fail)
  obtain ⟨ae, hae⟩ := H_hE.out.fresh H_fa.out
  have hne : 0 ≠ g + 1 + 1 := by
    obtain ⟨_, h0⟩ := H_hE.out
    have := ErrIs.lt h0
    have := H_hg.out
    omega
  have p0 := row_cell H_r3.out 0
  have p1 := row_cell H_r3.out 1
  have p2 := row_cell H_r3.out 2
  simp at p0 p1 p2
  have z0 : w7.frozen? ⟨g + 1 + 1, 0, none⟩ = false := frozen_of_row _ _ _ _ _ H_r3.out
  have z1 : w7.frozen? ⟨g + 1 + 1, 1, none⟩ = false := frozen_of_row _ _ _ _ _ H_r3.out
  have z2 : w7.frozen? ⟨g + 1 + 1, 2, none⟩ = false := frozen_of_row _ _ _ _ _ H_r3.out
  go_wp2_with (fail)
  go_region_held3 (fun (w' : World) => w'.cell? ⟨0, 0, none⟩ = some (.iface 91 (.pointer (some ae)))) (first | exact hae | exact far3 hne hae) (fail)
  go_wp2
  refine bodyPost_ret (results_cell_tmp_row rfl _ _ (g + 1 + 1) 50 #[.bool false, .int .i8 0, .int .u64 0] (0, 0) _ rfl (row_set (row_set (row_set H_r3.out))) Tryz.underlying50 rfl (by kernel_rfl)) rfl ?_
  exact ⟨ae, rfl, Fresh.set3 (H_fa.out.drewN 1) (by have := H_hg.out; omega)⟩

set_option maxRecDepth 20000 in
set_option maxHeartbeats 4000000 in
theorem addFint_eq_same (m1 m2 nz : Bool) (c1 s1 c2 s2 : Nat) (w : World) (hP : Pow10s w) (ms : Nat) (hs1 : s1 ≤ 19) (hs2 : s2 ≤ 19) (hc1 : c1 ≤ 9999999999999999999) (hc2 : c2 ≤ 9999999999999999999) (hsc : s1 = s2) (hsg : m1 = m2) (hsum : c1 + c2 ≤ 9999999999999999999)
    (sz cz : Nat) (Pv : Value → Prop) (hnf : ∀ W, Fresh w W → Calls Tryz.prog 100 #[.bool m1, .int .u64 (c1 + c2 : Nat), .int .i64 s1, .int .i64 ms] W (DOut W nz sz cz Pv)) :
    Calls Tryz.prog 85 #[gd m1 s1 c1, gd m2 s2 c2, .int .i64 ms] w (DOut w nz sz cz Pv) := by
  subst hsc
  have t1 : decide ((s1 : Int) < (s1 : Int)) = false := by simp
  subst hsg
  have hadd := fun W => fadd_any c1 c2 W hc1 hc2
  obtain ⟨q, hq⟩ : ∃ q, q = c1 + c2 := ⟨_, rfl⟩
  rw [← hq] at hadd hsum hnf
  have hm2 : mulTo q = .tuple #[.int .u64 q, .bool true] := by unfold mulTo; rw [if_pos hsum]
  rw [hm2] at hadd
  clear hm2 hq hsum
  obtain ⟨g, hg⟩ : ∃ g, g = w.heap.size := ⟨_, rfl⟩
  have bx := boxes3 w #[.bool m1, .int .i8 s1, .int .u64 c1] #[.bool m1, .int .i8 s1, .int .u64 c2] #[.bool false, .int .i8 0, .int .u64 0] 50 50 50 g hg
  have H_bx := Lib.hid bx; clear bx
  have H_hP := Lib.hid hP; clear hP
  have H_hnf := Lib.hid hnf; clear hnf
  have H_hadd := Lib.hid hadd; clear hadd
  go_enter Tryz.func85, Tryz.ntmps85
  go_wp2_with (fail)
  generalize hw1 : ((w.alloc _).alloc _).alloc _ = w1
  rw [← hg]
  obtain ⟨r1, r2, r3, fa, _⟩ := H_bx.out w1 hw1
  obtain ⟨k0, k1, k2, k3, k4, k5⟩ := cells6 r1 r2
  have H_r1 := Lib.hid r1; clear r1
  have H_r2 := Lib.hid r2; clear r2
  have H_r3 := Lib.hid r3; clear r3
  have H_fa := Lib.hid fa; clear fa
  have H_hw1 := Lib.hid hw1; clear hw1
  have H_hg := Lib.hid hg; clear hg
  go_wp2_with (fail)
  refine (Scale_any m1 s1 c1 _ hs1).mono ?_
  rintro e w2 ⟨rfl, f2⟩
  have r1 := row_fresh H_r1.out f2
  have r2 := row_fresh H_r2.out f2
  have r3 := row_fresh H_r3.out f2
  have fa := fresh_trans H_fa.out f2
  clear H_r1 H_r2 H_r3 H_fa f2
  clear k0 k1 k2 k3 k4 k5
  obtain ⟨k0, k1, k2, k3, k4, k5⟩ := cells6 r1 r2
  have H_r1 := Lib.hid r1; clear r1
  have H_r2 := Lib.hid r2; clear r2
  have H_r3 := Lib.hid r3; clear r3
  have H_fa := Lib.hid fa; clear fa
  go_wp2_with (fail)
  refine (IsNeg_any m1 s1 c1 _).mono ?_
  rintro e w3 ⟨rfl, f3⟩
  have r1 := row_fresh H_r1.out f3
  have r2 := row_fresh H_r2.out f3
  have r3 := row_fresh H_r3.out f3
  have fa := fresh_trans H_fa.out f3
  clear H_r1 H_r2 H_r3 H_fa f3
  clear k0 k1 k2 k3 k4 k5
  obtain ⟨k0, k1, k2, k3, k4, k5⟩ := cells6 r1 r2
  have H_r1 := Lib.hid r1; clear r1
  have H_r2 := Lib.hid r2; clear r2
  have H_r3 := Lib.hid r3; clear r3
  have H_fa := Lib.hid fa; clear fa
  go_wp2_with (fail)
  refine (Scale_any m1 s1 c2 _ hs1).mono ?_
  rintro e w4 ⟨rfl, f4⟩
  have r1 := row_fresh H_r1.out f4
  have r2 := row_fresh H_r2.out f4
  have r3 := row_fresh H_r3.out f4
  have fa := fresh_trans H_fa.out f4
  clear H_r1 H_r2 H_r3 H_fa f4
  clear k0 k1 k2 k3 k4 k5
  obtain ⟨k0, k1, k2, k3, k4, k5⟩ := cells6 r1 r2
  have H_r1 := Lib.hid r1; clear r1
  have H_r2 := Lib.hid r2; clear r2
  have H_r3 := Lib.hid r3; clear r3
  have H_fa := Lib.hid fa; clear fa
  go_wp2_with (fail)
  refine (Scale_any m1 s1 c2 _ hs1).mono ?_
  rintro e w5 ⟨rfl, f5⟩
  have r1 := row_fresh H_r1.out f5
  have r2 := row_fresh H_r2.out f5
  have r3 := row_fresh H_r3.out f5
  have fa := fresh_trans H_fa.out f5
  clear H_r1 H_r2 H_r3 H_fa f5
  clear k0 k1 k2 k3 k4 k5
  obtain ⟨k0, k1, k2, k3, k4, k5⟩ := cells6 r1 r2
  have H_r1 := Lib.hid r1; clear r1
  have H_r2 := Lib.hid r2; clear r2
  have H_r3 := Lib.hid r3; clear r3
  have H_fa := Lib.hid fa; clear fa
  go_wp2_with (fail)
  refine (IsNeg_any m1 s1 c2 _).mono ?_
  rintro e w6 ⟨rfl, f6⟩
  have r1 := row_fresh H_r1.out f6
  have r2 := row_fresh H_r2.out f6
  have r3 := row_fresh H_r3.out f6
  have fa := fresh_trans H_fa.out f6
  clear H_r1 H_r2 H_r3 H_fa f6
  clear k0 k1 k2 k3 k4 k5
  obtain ⟨k0, k1, k2, k3, k4, k5⟩ := cells6 r1 r2
  have H_r1 := Lib.hid r1; clear r1
  have H_r2 := Lib.hid r2; clear r2
  have H_r3 := Lib.hid r3; clear r3
  have H_fa := Lib.hid fa; clear fa
  go_wp2_with (fail)
  refine (H_hadd.out _).mono ?_
  rintro e w7 ⟨rfl, hs⟩
  subst hs
  go_wp2_with (fail)
  refine (H_hnf.out _ H_fa.out).mono ?_
  rintro e w8 ⟨ev, rfl, hev, f9⟩
  have r3 := row_fresh H_r3.out f9
  have p0 := row_cell r3 0
  have p1 := row_cell r3 1
  have p2 := row_cell r3 2
  simp at p0 p1 p2
  have z0 : w8.frozen? ⟨g + 1 + 1, 0, none⟩ = false := frozen_of_row _ _ _ _ _ r3
  have z1 : w8.frozen? ⟨g + 1 + 1, 1, none⟩ = false := frozen_of_row _ _ _ _ _ r3
  have z2 : w8.frozen? ⟨g + 1 + 1, 2, none⟩ = false := frozen_of_row _ _ _ _ _ r3
  have fa := fresh_trans H_fa.out f9
  clear H_r3 H_fa f9 k0 k1 k2 k3 k4 k5
  have H_r3 := Lib.hid r3; clear r3
  have H_fa := Lib.hid fa; clear fa
  have H_hev := Lib.hid hev; clear hev
  go_wp2_with (fail)
  refine bodyPost_ret (results_cell_tmp_row rfl _ _ (g + 1 + 1) 50 #[.bool nz, .int .i8 sz, .int .u64 cz] (0, 0) _ rfl (row_set (row_set (row_set H_r3.out))) Tryz.underlying50 rfl (by kernel_rfl)) rfl ?_
  exact ⟨ev, rfl, H_hev.out, Fresh.set3 H_fa.out (by have := H_hg.out; omega)⟩

set_option maxRecDepth 20000 in
set_option maxHeartbeats 4000000 in
theorem addFint_eq_less (m1 m2 nz : Bool) (c1 s1 c2 s2 : Nat) (w : World) (hP : Pow10s w) (ms : Nat) (hs1 : s1 ≤ 19) (hs2 : s2 ≤ 19) (hc1 : c1 ≤ 9999999999999999999) (hc2 : c2 ≤ 9999999999999999999) (hsc : s1 = s2) (hsg : m1 ≠ m2) (hsum : c1 < c2)
    (sz cz : Nat) (Pv : Value → Prop) (hnf : ∀ W, Fresh w W → Calls Tryz.prog 100 #[.bool m2, .int .u64 (adf (c1) (c2) : Nat), .int .i64 s1, .int .i64 ms] W (DOut W nz sz cz Pv)) :
    Calls Tryz.prog 85 #[gd m1 s1 c1, gd m2 s2 c2, .int .i64 ms] w (DOut w nz sz cz Pv) := by
  subst hsc
  have t1 : decide ((s1 : Int) < (s1 : Int)) = false := by simp
  have t4 : (m1 == m2) = false := by simpa using hsg
  have t5 : decide ((c1 : Int) < (c2 : Int)) = true := by simp; omega
  have hsub := fun W => fsubAbs_any c1 c2 W hc1 hc2
  generalize adf c1 c2 = q at *
  have H_hsg := Lib.hid hsg
  clear hsg
  obtain ⟨g, hg⟩ : ∃ g, g = w.heap.size := ⟨_, rfl⟩
  have bx := boxes3 w #[.bool m1, .int .i8 s1, .int .u64 c1] #[.bool m2, .int .i8 s1, .int .u64 c2] #[.bool false, .int .i8 0, .int .u64 0] 50 50 50 g hg
  have H_bx := Lib.hid bx; clear bx
  have H_hP := Lib.hid hP; clear hP
  have H_hnf := Lib.hid hnf; clear hnf
  have H_hsub := Lib.hid hsub; clear hsub
  go_enter Tryz.func85, Tryz.ntmps85
  go_wp2_with (fail)
  generalize hw1 : ((w.alloc _).alloc _).alloc _ = w1
  rw [← hg]
  obtain ⟨r1, r2, r3, fa, _⟩ := H_bx.out w1 hw1
  obtain ⟨k0, k1, k2, k3, k4, k5⟩ := cells6 r1 r2
  have H_r1 := Lib.hid r1; clear r1
  have H_r2 := Lib.hid r2; clear r2
  have H_r3 := Lib.hid r3; clear r3
  have H_fa := Lib.hid fa; clear fa
  have H_hw1 := Lib.hid hw1; clear hw1
  have H_hg := Lib.hid hg; clear hg
  go_wp2_with (fail)
  refine (Scale_any m1 s1 c1 _ hs1).mono ?_
  rintro e w2 ⟨rfl, f2⟩
  have r1 := row_fresh H_r1.out f2
  have r2 := row_fresh H_r2.out f2
  have r3 := row_fresh H_r3.out f2
  have fa := fresh_trans H_fa.out f2
  clear H_r1 H_r2 H_r3 H_fa f2
  clear k0 k1 k2 k3 k4 k5
  obtain ⟨k0, k1, k2, k3, k4, k5⟩ := cells6 r1 r2
  have H_r1 := Lib.hid r1; clear r1
  have H_r2 := Lib.hid r2; clear r2
  have H_r3 := Lib.hid r3; clear r3
  have H_fa := Lib.hid fa; clear fa
  go_wp2_with (fail)
  refine (IsNeg_any m1 s1 c1 _).mono ?_
  rintro e w3 ⟨rfl, f3⟩
  have r1 := row_fresh H_r1.out f3
  have r2 := row_fresh H_r2.out f3
  have r3 := row_fresh H_r3.out f3
  have fa := fresh_trans H_fa.out f3
  clear H_r1 H_r2 H_r3 H_fa f3
  clear k0 k1 k2 k3 k4 k5
  obtain ⟨k0, k1, k2, k3, k4, k5⟩ := cells6 r1 r2
  have H_r1 := Lib.hid r1; clear r1
  have H_r2 := Lib.hid r2; clear r2
  have H_r3 := Lib.hid r3; clear r3
  have H_fa := Lib.hid fa; clear fa
  go_wp2_with (fail)
  refine (Scale_any m2 s1 c2 _ hs1).mono ?_
  rintro e w4 ⟨rfl, f4⟩
  have r1 := row_fresh H_r1.out f4
  have r2 := row_fresh H_r2.out f4
  have r3 := row_fresh H_r3.out f4
  have fa := fresh_trans H_fa.out f4
  clear H_r1 H_r2 H_r3 H_fa f4
  clear k0 k1 k2 k3 k4 k5
  obtain ⟨k0, k1, k2, k3, k4, k5⟩ := cells6 r1 r2
  have H_r1 := Lib.hid r1; clear r1
  have H_r2 := Lib.hid r2; clear r2
  have H_r3 := Lib.hid r3; clear r3
  have H_fa := Lib.hid fa; clear fa
  go_wp2_with (fail)
  refine (Scale_any m2 s1 c2 _ hs1).mono ?_
  rintro e w5 ⟨rfl, f5⟩
  have r1 := row_fresh H_r1.out f5
  have r2 := row_fresh H_r2.out f5
  have r3 := row_fresh H_r3.out f5
  have fa := fresh_trans H_fa.out f5
  clear H_r1 H_r2 H_r3 H_fa f5
  clear k0 k1 k2 k3 k4 k5
  obtain ⟨k0, k1, k2, k3, k4, k5⟩ := cells6 r1 r2
  have H_r1 := Lib.hid r1; clear r1
  have H_r2 := Lib.hid r2; clear r2
  have H_r3 := Lib.hid r3; clear r3
  have H_fa := Lib.hid fa; clear fa
  go_wp2_with (fail)
  refine (IsNeg_any m2 s1 c2 _).mono ?_
  rintro e w6 ⟨rfl, f6⟩
  have r1 := row_fresh H_r1.out f6
  have r2 := row_fresh H_r2.out f6
  have r3 := row_fresh H_r3.out f6
  have fa := fresh_trans H_fa.out f6
  clear H_r1 H_r2 H_r3 H_fa f6
  clear k0 k1 k2 k3 k4 k5
  obtain ⟨k0, k1, k2, k3, k4, k5⟩ := cells6 r1 r2
  have H_r1 := Lib.hid r1; clear r1
  have H_r2 := Lib.hid r2; clear r2
  have H_r3 := Lib.hid r3; clear r3
  have H_fa := Lib.hid fa; clear fa
  go_wp2_with (fail)
  refine (IsNeg_any m2 s1 c2 _).mono ?_
  rintro e w7 ⟨rfl, f7⟩
  have r1 := row_fresh H_r1.out f7
  have r2 := row_fresh H_r2.out f7
  have r3 := row_fresh H_r3.out f7
  have fa := fresh_trans H_fa.out f7
  clear H_r1 H_r2 H_r3 H_fa f7
  clear k0 k1 k2 k3 k4 k5
  obtain ⟨k0, k1, k2, k3, k4, k5⟩ := cells6 r1 r2
  have H_r1 := Lib.hid r1; clear r1
  have H_r2 := Lib.hid r2; clear r2
  have H_r3 := Lib.hid r3; clear r3
  have H_fa := Lib.hid fa; clear fa
  go_wp2_with (fail)
  refine (H_hsub.out _).mono ?_
  rintro e w8 ⟨rfl, hs⟩
  subst hs
  go_wp2_with (fail)
  refine (H_hnf.out _ H_fa.out).mono ?_
  rintro e w9 ⟨ev, rfl, hev, f9⟩
  have r3 := row_fresh H_r3.out f9
  have p0 := row_cell r3 0
  have p1 := row_cell r3 1
  have p2 := row_cell r3 2
  simp at p0 p1 p2
  have z0 : w9.frozen? ⟨g + 1 + 1, 0, none⟩ = false := frozen_of_row _ _ _ _ _ r3
  have z1 : w9.frozen? ⟨g + 1 + 1, 1, none⟩ = false := frozen_of_row _ _ _ _ _ r3
  have z2 : w9.frozen? ⟨g + 1 + 1, 2, none⟩ = false := frozen_of_row _ _ _ _ _ r3
  have fa := fresh_trans H_fa.out f9
  clear H_r3 H_fa f9 k0 k1 k2 k3 k4 k5
  have H_r3 := Lib.hid r3; clear r3
  have H_fa := Lib.hid fa; clear fa
  have H_hev := Lib.hid hev; clear hev
  go_wp2_with (fail)
  refine bodyPost_ret (results_cell_tmp_row rfl _ _ (g + 1 + 1) 50 #[.bool nz, .int .i8 sz, .int .u64 cz] (0, 0) _ rfl (row_set (row_set (row_set H_r3.out))) Tryz.underlying50 rfl (by kernel_rfl)) rfl ?_
  exact ⟨ev, rfl, H_hev.out, Fresh.set3 H_fa.out (by have := H_hg.out; omega)⟩

set_option maxRecDepth 20000 in
set_option maxHeartbeats 4000000 in
theorem addFint_eq_more (m1 m2 nz : Bool) (c1 s1 c2 s2 : Nat) (w : World) (hP : Pow10s w) (ms : Nat) (hs1 : s1 ≤ 19) (hs2 : s2 ≤ 19) (hc1 : c1 ≤ 9999999999999999999) (hc2 : c2 ≤ 9999999999999999999) (hsc : s1 = s2) (hsg : m1 ≠ m2) (hsum : ¬ c1 < c2)
    (sz cz : Nat) (Pv : Value → Prop) (hnf : ∀ W, Fresh w W → Calls Tryz.prog 100 #[.bool m1, .int .u64 (adf (c1) (c2) : Nat), .int .i64 s1, .int .i64 ms] W (DOut W nz sz cz Pv)) :
    Calls Tryz.prog 85 #[gd m1 s1 c1, gd m2 s2 c2, .int .i64 ms] w (DOut w nz sz cz Pv) := by
  subst hsc
  have t1 : decide ((s1 : Int) < (s1 : Int)) = false := by simp
  have t4 : (m1 == m2) = false := by simpa using hsg
  have t5 : decide ((c1 : Int) < (c2 : Int)) = false := by simp; omega
  have hsub := fun W => fsubAbs_any c1 c2 W hc1 hc2
  generalize adf c1 c2 = q at *
  have H_hsg := Lib.hid hsg
  clear hsg
  obtain ⟨g, hg⟩ : ∃ g, g = w.heap.size := ⟨_, rfl⟩
  have bx := boxes3 w #[.bool m1, .int .i8 s1, .int .u64 c1] #[.bool m2, .int .i8 s1, .int .u64 c2] #[.bool false, .int .i8 0, .int .u64 0] 50 50 50 g hg
  have H_bx := Lib.hid bx; clear bx
  have H_hP := Lib.hid hP; clear hP
  have H_hnf := Lib.hid hnf; clear hnf
  have H_hsub := Lib.hid hsub; clear hsub
  go_enter Tryz.func85, Tryz.ntmps85
  go_wp2_with (fail)
  generalize hw1 : ((w.alloc _).alloc _).alloc _ = w1
  rw [← hg]
  obtain ⟨r1, r2, r3, fa, _⟩ := H_bx.out w1 hw1
  obtain ⟨k0, k1, k2, k3, k4, k5⟩ := cells6 r1 r2
  have H_r1 := Lib.hid r1; clear r1
  have H_r2 := Lib.hid r2; clear r2
  have H_r3 := Lib.hid r3; clear r3
  have H_fa := Lib.hid fa; clear fa
  have H_hw1 := Lib.hid hw1; clear hw1
  have H_hg := Lib.hid hg; clear hg
  go_wp2_with (fail)
  refine (Scale_any m1 s1 c1 _ hs1).mono ?_
  rintro e w2 ⟨rfl, f2⟩
  have r1 := row_fresh H_r1.out f2
  have r2 := row_fresh H_r2.out f2
  have r3 := row_fresh H_r3.out f2
  have fa := fresh_trans H_fa.out f2
  clear H_r1 H_r2 H_r3 H_fa f2
  clear k0 k1 k2 k3 k4 k5
  obtain ⟨k0, k1, k2, k3, k4, k5⟩ := cells6 r1 r2
  have H_r1 := Lib.hid r1; clear r1
  have H_r2 := Lib.hid r2; clear r2
  have H_r3 := Lib.hid r3; clear r3
  have H_fa := Lib.hid fa; clear fa
  go_wp2_with (fail)
  refine (IsNeg_any m1 s1 c1 _).mono ?_
  rintro e w3 ⟨rfl, f3⟩
  have r1 := row_fresh H_r1.out f3
  have r2 := row_fresh H_r2.out f3
  have r3 := row_fresh H_r3.out f3
  have fa := fresh_trans H_fa.out f3
  clear H_r1 H_r2 H_r3 H_fa f3
  clear k0 k1 k2 k3 k4 k5
  obtain ⟨k0, k1, k2, k3, k4, k5⟩ := cells6 r1 r2
  have H_r1 := Lib.hid r1; clear r1
  have H_r2 := Lib.hid r2; clear r2
  have H_r3 := Lib.hid r3; clear r3
  have H_fa := Lib.hid fa; clear fa
  go_wp2_with (fail)
  refine (Scale_any m2 s1 c2 _ hs1).mono ?_
  rintro e w4 ⟨rfl, f4⟩
  have r1 := row_fresh H_r1.out f4
  have r2 := row_fresh H_r2.out f4
  have r3 := row_fresh H_r3.out f4
  have fa := fresh_trans H_fa.out f4
  clear H_r1 H_r2 H_r3 H_fa f4
  clear k0 k1 k2 k3 k4 k5
  obtain ⟨k0, k1, k2, k3, k4, k5⟩ := cells6 r1 r2
  have H_r1 := Lib.hid r1; clear r1
  have H_r2 := Lib.hid r2; clear r2
  have H_r3 := Lib.hid r3; clear r3
  have H_fa := Lib.hid fa; clear fa
  go_wp2_with (fail)
  refine (Scale_any m2 s1 c2 _ hs1).mono ?_
  rintro e w5 ⟨rfl, f5⟩
  have r1 := row_fresh H_r1.out f5
  have r2 := row_fresh H_r2.out f5
  have r3 := row_fresh H_r3.out f5
  have fa := fresh_trans H_fa.out f5
  clear H_r1 H_r2 H_r3 H_fa f5
  clear k0 k1 k2 k3 k4 k5
  obtain ⟨k0, k1, k2, k3, k4, k5⟩ := cells6 r1 r2
  have H_r1 := Lib.hid r1; clear r1
  have H_r2 := Lib.hid r2; clear r2
  have H_r3 := Lib.hid r3; clear r3
  have H_fa := Lib.hid fa; clear fa
  go_wp2_with (fail)
  refine (IsNeg_any m2 s1 c2 _).mono ?_
  rintro e w6 ⟨rfl, f6⟩
  have r1 := row_fresh H_r1.out f6
  have r2 := row_fresh H_r2.out f6
  have r3 := row_fresh H_r3.out f6
  have fa := fresh_trans H_fa.out f6
  clear H_r1 H_r2 H_r3 H_fa f6
  clear k0 k1 k2 k3 k4 k5
  obtain ⟨k0, k1, k2, k3, k4, k5⟩ := cells6 r1 r2
  have H_r1 := Lib.hid r1; clear r1
  have H_r2 := Lib.hid r2; clear r2
  have H_r3 := Lib.hid r3; clear r3
  have H_fa := Lib.hid fa; clear fa
  go_wp2_with (fail)
  refine (H_hsub.out _).mono ?_
  rintro e w7 ⟨rfl, hs⟩
  subst hs
  go_wp2_with (fail)
  refine (H_hnf.out _ H_fa.out).mono ?_
  rintro e w8 ⟨ev, rfl, hev, f9⟩
  have r3 := row_fresh H_r3.out f9
  have p0 := row_cell r3 0
  have p1 := row_cell r3 1
  have p2 := row_cell r3 2
  simp at p0 p1 p2
  have z0 : w8.frozen? ⟨g + 1 + 1, 0, none⟩ = false := frozen_of_row _ _ _ _ _ r3
  have z1 : w8.frozen? ⟨g + 1 + 1, 1, none⟩ = false := frozen_of_row _ _ _ _ _ r3
  have z2 : w8.frozen? ⟨g + 1 + 1, 2, none⟩ = false := frozen_of_row _ _ _ _ _ r3
  have fa := fresh_trans H_fa.out f9
  clear H_r3 H_fa f9 k0 k1 k2 k3 k4 k5
  have H_r3 := Lib.hid r3; clear r3
  have H_fa := Lib.hid fa; clear fa
  have H_hev := Lib.hid hev; clear hev
  go_wp2_with (fail)
  refine bodyPost_ret (results_cell_tmp_row rfl _ _ (g + 1 + 1) 50 #[.bool nz, .int .i8 sz, .int .u64 cz] (0, 0) _ rfl (row_set (row_set (row_set H_r3.out))) Tryz.underlying50 rfl (by kernel_rfl)) rfl ?_
  exact ⟨ev, rfl, H_hev.out, Fresh.set3 H_fa.out (by have := H_hg.out; omega)⟩

set_option maxRecDepth 20000 in
set_option maxHeartbeats 4000000 in
theorem addFint_lt_lshno (m1 m2 : Bool) (c1 s1 c2 s2 : Nat) (w : World) (hP : Pow10s w) (hE : ErrIs w) (ms : Nat) (hs1 : s1 ≤ 19) (hs2 : s2 ≤ 19) (hc1 : c1 ≤ 9999999999999999999) (_hc2 : c2 ≤ 9999999999999999999) (hsc : s1 < s2) (hfit : ¬ c1 * 10 ^ (s2 - s1) ≤ 9999999999999999999) :
    Calls Tryz.prog 85 #[gd m1 s1 c1, gd m2 s2 c2, .int .i64 ms] w (ClampErr w) := by
  have t1 : decide ((s2 : Int) < (s1 : Int)) = false := by simp; omega
  have t1n : ¬ s2 < s1 := by omega
  have t2 : decide ((s1 : Int) < (s2 : Int)) = true := by simp; omega
  have hlsh := fun W (hW : Fresh w W) => flsh_any c1 (s2 - s1) W (hP.fresh hW) hc1 (by omega)
  obtain ⟨k, hk⟩ : ∃ k, k = s2 - s1 := ⟨_, rfl⟩
  have hkI : (s2 : Int) - (s1 : Int) = (k : Int) := by omega
  have hkw : IntKind.i64.wrap (k : Int) = (k : Int) := wrap_nat k (by omega)
  rw [← hk] at hlsh hfit
  obtain ⟨b, hb⟩ : ∃ b, b = c1 * 10 ^ k := ⟨_, rfl⟩
  rw [← hb] at hlsh hfit
  have hm : mulTo b = .tuple #[.int .u64 0, .bool false] := by unfold mulTo; rw [if_neg hfit]
  rw [hm] at hlsh
  clear hm hb hk
  clear hfit
  obtain ⟨g, hg⟩ : ∃ g, g = w.heap.size := ⟨_, rfl⟩
  have bx := boxes3 w #[.bool m1, .int .i8 s1, .int .u64 c1] #[.bool m2, .int .i8 s2, .int .u64 c2] #[.bool false, .int .i8 0, .int .u64 0] 50 50 50 g hg
  have H_bx := Lib.hid bx; clear bx
  have H_hP := Lib.hid hP; clear hP
  have H_hE := Lib.hid hE; clear hE
  have H_hlsh := Lib.hid hlsh; clear hlsh
  go_enter Tryz.func85, Tryz.ntmps85
  go_wp2_with (fail)
  generalize hw1 : ((w.alloc _).alloc _).alloc _ = w1
  rw [← hg]
  obtain ⟨r1, r2, r3, fa, _⟩ := H_bx.out w1 hw1
  obtain ⟨k0, k1, k2, k3, k4, k5⟩ := cells6 r1 r2
  have H_r1 := Lib.hid r1; clear r1
  have H_r2 := Lib.hid r2; clear r2
  have H_r3 := Lib.hid r3; clear r3
  have H_fa := Lib.hid fa; clear fa
  have H_hw1 := Lib.hid hw1; clear hw1
  have H_hg := Lib.hid hg; clear hg
  go_wp2_with (fail)
  refine (Scale_any m1 s1 c1 _ hs1).mono ?_
  rintro e w2 ⟨rfl, f2⟩
  have r1 := row_fresh H_r1.out f2
  have r2 := row_fresh H_r2.out f2
  have r3 := row_fresh H_r3.out f2
  have fa := fresh_trans H_fa.out f2
  clear H_r1 H_r2 H_r3 H_fa f2
  clear k0 k1 k2 k3 k4 k5
  obtain ⟨k0, k1, k2, k3, k4, k5⟩ := cells6 r1 r2
  have H_r1 := Lib.hid r1; clear r1
  have H_r2 := Lib.hid r2; clear r2
  have H_r3 := Lib.hid r3; clear r3
  have H_fa := Lib.hid fa; clear fa
  go_wp2_with (fail)
  refine (IsNeg_any m1 s1 c1 _).mono ?_
  rintro e w3 ⟨rfl, f3⟩
  have r1 := row_fresh H_r1.out f3
  have r2 := row_fresh H_r2.out f3
  have r3 := row_fresh H_r3.out f3
  have fa := fresh_trans H_fa.out f3
  clear H_r1 H_r2 H_r3 H_fa f3
  clear k0 k1 k2 k3 k4 k5
  obtain ⟨k0, k1, k2, k3, k4, k5⟩ := cells6 r1 r2
  have H_r1 := Lib.hid r1; clear r1
  have H_r2 := Lib.hid r2; clear r2
  have H_r3 := Lib.hid r3; clear r3
  have H_fa := Lib.hid fa; clear fa
  go_wp2_with (fail)
  refine (Scale_any m2 s2 c2 _ hs2).mono ?_
  rintro e w4 ⟨rfl, f4⟩
  have r1 := row_fresh H_r1.out f4
  have r2 := row_fresh H_r2.out f4
  have r3 := row_fresh H_r3.out f4
  have fa := fresh_trans H_fa.out f4
  clear H_r1 H_r2 H_r3 H_fa f4
  clear k0 k1 k2 k3 k4 k5
  obtain ⟨k0, k1, k2, k3, k4, k5⟩ := cells6 r1 r2
  have H_r1 := Lib.hid r1; clear r1
  have H_r2 := Lib.hid r2; clear r2
  have H_r3 := Lib.hid r3; clear r3
  have H_fa := Lib.hid fa; clear fa
  go_wp2_with (fail)
  refine (Scale_any m2 s2 c2 _ hs2).mono ?_
  rintro e w5 ⟨rfl, f5⟩
  have r1 := row_fresh H_r1.out f5
  have r2 := row_fresh H_r2.out f5
  have r3 := row_fresh H_r3.out f5
  have fa := fresh_trans H_fa.out f5
  clear H_r1 H_r2 H_r3 H_fa f5
  clear k0 k1 k2 k3 k4 k5
  obtain ⟨k0, k1, k2, k3, k4, k5⟩ := cells6 r1 r2
  have H_r1 := Lib.hid r1; clear r1
  have H_r2 := Lib.hid r2; clear r2
  have H_r3 := Lib.hid r3; clear r3
  have H_fa := Lib.hid fa; clear fa
  go_wp2_with (fail)
  refine (Scale_any m2 s2 c2 _ hs2).mono ?_
  rintro e w6 ⟨rfl, f6⟩
  have r1 := row_fresh H_r1.out f6
  have r2 := row_fresh H_r2.out f6
  have r3 := row_fresh H_r3.out f6
  have fa := fresh_trans H_fa.out f6
  clear H_r1 H_r2 H_r3 H_fa f6
  clear k0 k1 k2 k3 k4 k5
  obtain ⟨k0, k1, k2, k3, k4, k5⟩ := cells6 r1 r2
  have H_r1 := Lib.hid r1; clear r1
  have H_r2 := Lib.hid r2; clear r2
  have H_r3 := Lib.hid r3; clear r3
  have H_fa := Lib.hid fa; clear fa
  go_wp2_with (fail)
  refine (H_hlsh.out _ H_fa.out).mono ?_
  rintro e w7 ⟨rfl, hs⟩
  subst hs
  go_wp2_with (fail)
  obtain ⟨ae, hae⟩ := H_hE.out.fresh H_fa.out
  have hne : 0 ≠ g + 1 + 1 := by
    obtain ⟨_, h0⟩ := H_hE.out
    have := ErrIs.lt h0
    have := H_hg.out
    omega
  have p0 := row_cell H_r3.out 0
  have p1 := row_cell H_r3.out 1
  have p2 := row_cell H_r3.out 2
  simp at p0 p1 p2
  have z0 : w7.frozen? ⟨g + 1 + 1, 0, none⟩ = false := frozen_of_row _ _ _ _ _ H_r3.out
  have z1 : w7.frozen? ⟨g + 1 + 1, 1, none⟩ = false := frozen_of_row _ _ _ _ _ H_r3.out
  have z2 : w7.frozen? ⟨g + 1 + 1, 2, none⟩ = false := frozen_of_row _ _ _ _ _ H_r3.out
  go_wp2_with (fail)
  go_region_held3 (fun (w' : World) => w'.cell? ⟨0, 0, none⟩ = some (.iface 91 (.pointer (some ae)))) (first | exact hae | exact far3 hne hae) (fail)
  go_wp2
  refine bodyPost_ret (results_cell_tmp_row rfl _ _ (g + 1 + 1) 50 #[.bool false, .int .i8 0, .int .u64 0] (0, 0) _ rfl (row_set (row_set (row_set H_r3.out))) Tryz.underlying50 rfl (by kernel_rfl)) rfl ?_
  exact ⟨ae, rfl, Fresh.set3 (H_fa.out.drewN 1) (by have := H_hg.out; omega)⟩

set_option maxRecDepth 20000 in
set_option maxHeartbeats 4000000 in
theorem addFint_lt_addno (m1 m2 : Bool) (c1 s1 c2 s2 : Nat) (w : World) (hP : Pow10s w) (hE : ErrIs w) (ms : Nat) (hs1 : s1 ≤ 19) (hs2 : s2 ≤ 19) (hc1 : c1 ≤ 9999999999999999999) (hc2 : c2 ≤ 9999999999999999999) (hsc : s1 < s2) (hfit : c1 * 10 ^ (s2 - s1) ≤ 9999999999999999999) (hsg : m1 = m2) (hsum : ¬ c1 * 10 ^ (s2 - s1) + c2 ≤ 9999999999999999999) :
    Calls Tryz.prog 85 #[gd m1 s1 c1, gd m2 s2 c2, .int .i64 ms] w (ClampErr w) := by
  have t1 : decide ((s2 : Int) < (s1 : Int)) = false := by simp; omega
  have t1n : ¬ s2 < s1 := by omega
  have t2 : decide ((s1 : Int) < (s2 : Int)) = true := by simp; omega
  have hlsh := fun W (hW : Fresh w W) => flsh_any c1 (s2 - s1) W (hP.fresh hW) hc1 (by omega)
  obtain ⟨k, hk⟩ : ∃ k, k = s2 - s1 := ⟨_, rfl⟩
  have hkI : (s2 : Int) - (s1 : Int) = (k : Int) := by omega
  have hkw : IntKind.i64.wrap (k : Int) = (k : Int) := wrap_nat k (by omega)
  rw [← hk] at hlsh hfit hsum
  obtain ⟨b, hb⟩ : ∃ b, b = c1 * 10 ^ k := ⟨_, rfl⟩
  rw [← hb] at hlsh hfit hsum
  have hm : mulTo b = .tuple #[.int .u64 b, .bool true] := by unfold mulTo; rw [if_pos hfit]
  rw [hm] at hlsh
  clear hm hb hk
  subst hsg
  have hadd := fun W => fadd_any b c2 W hfit hc2
  obtain ⟨q, hq⟩ : ∃ q, q = b + c2 := ⟨_, rfl⟩
  rw [← hq] at hadd hsum
  have hm2 : mulTo q = .tuple #[.int .u64 0, .bool false] := by unfold mulTo; rw [if_neg hsum]
  rw [hm2] at hadd
  clear hm2 hq hsum
  obtain ⟨g, hg⟩ : ∃ g, g = w.heap.size := ⟨_, rfl⟩
  have bx := boxes3 w #[.bool m1, .int .i8 s1, .int .u64 c1] #[.bool m1, .int .i8 s2, .int .u64 c2] #[.bool false, .int .i8 0, .int .u64 0] 50 50 50 g hg
  have H_bx := Lib.hid bx; clear bx
  have H_hP := Lib.hid hP; clear hP
  have H_hE := Lib.hid hE; clear hE
  have H_hlsh := Lib.hid hlsh; clear hlsh
  have H_hadd := Lib.hid hadd; clear hadd
  go_enter Tryz.func85, Tryz.ntmps85
  go_wp2_with (fail)
  generalize hw1 : ((w.alloc _).alloc _).alloc _ = w1
  rw [← hg]
  obtain ⟨r1, r2, r3, fa, _⟩ := H_bx.out w1 hw1
  obtain ⟨k0, k1, k2, k3, k4, k5⟩ := cells6 r1 r2
  have H_r1 := Lib.hid r1; clear r1
  have H_r2 := Lib.hid r2; clear r2
  have H_r3 := Lib.hid r3; clear r3
  have H_fa := Lib.hid fa; clear fa
  have H_hw1 := Lib.hid hw1; clear hw1
  have H_hg := Lib.hid hg; clear hg
  go_wp2_with (fail)
  refine (Scale_any m1 s1 c1 _ hs1).mono ?_
  rintro e w2 ⟨rfl, f2⟩
  have r1 := row_fresh H_r1.out f2
  have r2 := row_fresh H_r2.out f2
  have r3 := row_fresh H_r3.out f2
  have fa := fresh_trans H_fa.out f2
  clear H_r1 H_r2 H_r3 H_fa f2
  clear k0 k1 k2 k3 k4 k5
  obtain ⟨k0, k1, k2, k3, k4, k5⟩ := cells6 r1 r2
  have H_r1 := Lib.hid r1; clear r1
  have H_r2 := Lib.hid r2; clear r2
  have H_r3 := Lib.hid r3; clear r3
  have H_fa := Lib.hid fa; clear fa
  go_wp2_with (fail)
  refine (IsNeg_any m1 s1 c1 _).mono ?_
  rintro e w3 ⟨rfl, f3⟩
  have r1 := row_fresh H_r1.out f3
  have r2 := row_fresh H_r2.out f3
  have r3 := row_fresh H_r3.out f3
  have fa := fresh_trans H_fa.out f3
  clear H_r1 H_r2 H_r3 H_fa f3
  clear k0 k1 k2 k3 k4 k5
  obtain ⟨k0, k1, k2, k3, k4, k5⟩ := cells6 r1 r2
  have H_r1 := Lib.hid r1; clear r1
  have H_r2 := Lib.hid r2; clear r2
  have H_r3 := Lib.hid r3; clear r3
  have H_fa := Lib.hid fa; clear fa
  go_wp2_with (fail)
  refine (Scale_any m1 s2 c2 _ hs2).mono ?_
  rintro e w4 ⟨rfl, f4⟩
  have r1 := row_fresh H_r1.out f4
  have r2 := row_fresh H_r2.out f4
  have r3 := row_fresh H_r3.out f4
  have fa := fresh_trans H_fa.out f4
  clear H_r1 H_r2 H_r3 H_fa f4
  clear k0 k1 k2 k3 k4 k5
  obtain ⟨k0, k1, k2, k3, k4, k5⟩ := cells6 r1 r2
  have H_r1 := Lib.hid r1; clear r1
  have H_r2 := Lib.hid r2; clear r2
  have H_r3 := Lib.hid r3; clear r3
  have H_fa := Lib.hid fa; clear fa
  go_wp2_with (fail)
  refine (Scale_any m1 s2 c2 _ hs2).mono ?_
  rintro e w5 ⟨rfl, f5⟩
  have r1 := row_fresh H_r1.out f5
  have r2 := row_fresh H_r2.out f5
  have r3 := row_fresh H_r3.out f5
  have fa := fresh_trans H_fa.out f5
  clear H_r1 H_r2 H_r3 H_fa f5
  clear k0 k1 k2 k3 k4 k5
  obtain ⟨k0, k1, k2, k3, k4, k5⟩ := cells6 r1 r2
  have H_r1 := Lib.hid r1; clear r1
  have H_r2 := Lib.hid r2; clear r2
  have H_r3 := Lib.hid r3; clear r3
  have H_fa := Lib.hid fa; clear fa
  go_wp2_with (fail)
  refine (Scale_any m1 s2 c2 _ hs2).mono ?_
  rintro e w6 ⟨rfl, f6⟩
  have r1 := row_fresh H_r1.out f6
  have r2 := row_fresh H_r2.out f6
  have r3 := row_fresh H_r3.out f6
  have fa := fresh_trans H_fa.out f6
  clear H_r1 H_r2 H_r3 H_fa f6
  clear k0 k1 k2 k3 k4 k5
  obtain ⟨k0, k1, k2, k3, k4, k5⟩ := cells6 r1 r2
  have H_r1 := Lib.hid r1; clear r1
  have H_r2 := Lib.hid r2; clear r2
  have H_r3 := Lib.hid r3; clear r3
  have H_fa := Lib.hid fa; clear fa
  go_wp2_with (fail)
  refine (H_hlsh.out _ H_fa.out).mono ?_
  rintro e w7 ⟨rfl, hs⟩
  subst hs
  go_wp2_with (fail)
  refine (Scale_any m1 s2 c2 _ hs2).mono ?_
  rintro e w8 ⟨rfl, f8⟩
  have r1 := row_fresh H_r1.out f8
  have r2 := row_fresh H_r2.out f8
  have r3 := row_fresh H_r3.out f8
  have fa := fresh_trans H_fa.out f8
  clear H_r1 H_r2 H_r3 H_fa f8
  clear k0 k1 k2 k3 k4 k5
  obtain ⟨k0, k1, k2, k3, k4, k5⟩ := cells6 r1 r2
  have H_r1 := Lib.hid r1; clear r1
  have H_r2 := Lib.hid r2; clear r2
  have H_r3 := Lib.hid r3; clear r3
  have H_fa := Lib.hid fa; clear fa
  go_wp2_with (fail)
  refine (IsNeg_any m1 s2 c2 _).mono ?_
  rintro e w9 ⟨rfl, f9⟩
  have r1 := row_fresh H_r1.out f9
  have r2 := row_fresh H_r2.out f9
  have r3 := row_fresh H_r3.out f9
  have fa := fresh_trans H_fa.out f9
  clear H_r1 H_r2 H_r3 H_fa f9
  clear k0 k1 k2 k3 k4 k5
  obtain ⟨k0, k1, k2, k3, k4, k5⟩ := cells6 r1 r2
  have H_r1 := Lib.hid r1; clear r1
  have H_r2 := Lib.hid r2; clear r2
  have H_r3 := Lib.hid r3; clear r3
  have H_fa := Lib.hid fa; clear fa
  go_wp2_with (fail)
  refine (H_hadd.out _).mono ?_
  rintro e w10 ⟨rfl, hs⟩
  subst hs
  go_wp2_with (fail)
  obtain ⟨ae, hae⟩ := H_hE.out.fresh H_fa.out
  have hne : 0 ≠ g + 1 + 1 := by
    obtain ⟨_, h0⟩ := H_hE.out
    have := ErrIs.lt h0
    have := H_hg.out
    omega
  have p0 := row_cell H_r3.out 0
  have p1 := row_cell H_r3.out 1
  have p2 := row_cell H_r3.out 2
  simp at p0 p1 p2
  have z0 : w10.frozen? ⟨g + 1 + 1, 0, none⟩ = false := frozen_of_row _ _ _ _ _ H_r3.out
  have z1 : w10.frozen? ⟨g + 1 + 1, 1, none⟩ = false := frozen_of_row _ _ _ _ _ H_r3.out
  have z2 : w10.frozen? ⟨g + 1 + 1, 2, none⟩ = false := frozen_of_row _ _ _ _ _ H_r3.out
  go_wp2_with (fail)
  go_region_held3 (fun (w' : World) => w'.cell? ⟨0, 0, none⟩ = some (.iface 91 (.pointer (some ae)))) (first | exact hae | exact far3 hne hae) (fail)
  go_wp2
  refine bodyPost_ret (results_cell_tmp_row rfl _ _ (g + 1 + 1) 50 #[.bool false, .int .i8 0, .int .u64 0] (0, 0) _ rfl (row_set (row_set (row_set H_r3.out))) Tryz.underlying50 rfl (by kernel_rfl)) rfl ?_
  exact ⟨ae, rfl, Fresh.set3 (H_fa.out.drewN 1) (by have := H_hg.out; omega)⟩

set_option maxRecDepth 20000 in
set_option maxHeartbeats 4000000 in
theorem addFint_lt_same (m1 m2 nz : Bool) (c1 s1 c2 s2 : Nat) (w : World) (hP : Pow10s w) (ms : Nat) (hs1 : s1 ≤ 19) (hs2 : s2 ≤ 19) (hc1 : c1 ≤ 9999999999999999999) (hc2 : c2 ≤ 9999999999999999999) (hsc : s1 < s2) (hfit : c1 * 10 ^ (s2 - s1) ≤ 9999999999999999999) (hsg : m1 = m2) (hsum : c1 * 10 ^ (s2 - s1) + c2 ≤ 9999999999999999999)
    (sz cz : Nat) (Pv : Value → Prop) (hnf : ∀ W, Fresh w W → Calls Tryz.prog 100 #[.bool m1, .int .u64 (c1 * 10 ^ (s2 - s1) + c2 : Nat), .int .i64 s2, .int .i64 ms] W (DOut W nz sz cz Pv)) :
    Calls Tryz.prog 85 #[gd m1 s1 c1, gd m2 s2 c2, .int .i64 ms] w (DOut w nz sz cz Pv) := by
  have t1 : decide ((s2 : Int) < (s1 : Int)) = false := by simp; omega
  have t1n : ¬ s2 < s1 := by omega
  have t2 : decide ((s1 : Int) < (s2 : Int)) = true := by simp; omega
  have hlsh := fun W (hW : Fresh w W) => flsh_any c1 (s2 - s1) W (hP.fresh hW) hc1 (by omega)
  obtain ⟨k, hk⟩ : ∃ k, k = s2 - s1 := ⟨_, rfl⟩
  have hkI : (s2 : Int) - (s1 : Int) = (k : Int) := by omega
  have hkw : IntKind.i64.wrap (k : Int) = (k : Int) := wrap_nat k (by omega)
  rw [← hk] at hlsh hfit hsum hnf
  obtain ⟨b, hb⟩ : ∃ b, b = c1 * 10 ^ k := ⟨_, rfl⟩
  rw [← hb] at hlsh hfit hsum hnf
  have hm : mulTo b = .tuple #[.int .u64 b, .bool true] := by unfold mulTo; rw [if_pos hfit]
  rw [hm] at hlsh
  clear hm hb hk
  subst hsg
  have hadd := fun W => fadd_any b c2 W hfit hc2
  obtain ⟨q, hq⟩ : ∃ q, q = b + c2 := ⟨_, rfl⟩
  rw [← hq] at hadd hsum hnf
  have hm2 : mulTo q = .tuple #[.int .u64 q, .bool true] := by unfold mulTo; rw [if_pos hsum]
  rw [hm2] at hadd
  clear hm2 hq hsum
  obtain ⟨g, hg⟩ : ∃ g, g = w.heap.size := ⟨_, rfl⟩
  have bx := boxes3 w #[.bool m1, .int .i8 s1, .int .u64 c1] #[.bool m1, .int .i8 s2, .int .u64 c2] #[.bool false, .int .i8 0, .int .u64 0] 50 50 50 g hg
  have H_bx := Lib.hid bx; clear bx
  have H_hP := Lib.hid hP; clear hP
  have H_hnf := Lib.hid hnf; clear hnf
  have H_hlsh := Lib.hid hlsh; clear hlsh
  have H_hadd := Lib.hid hadd; clear hadd
  go_enter Tryz.func85, Tryz.ntmps85
  go_wp2_with (fail)
  generalize hw1 : ((w.alloc _).alloc _).alloc _ = w1
  rw [← hg]
  obtain ⟨r1, r2, r3, fa, _⟩ := H_bx.out w1 hw1
  obtain ⟨k0, k1, k2, k3, k4, k5⟩ := cells6 r1 r2
  have H_r1 := Lib.hid r1; clear r1
  have H_r2 := Lib.hid r2; clear r2
  have H_r3 := Lib.hid r3; clear r3
  have H_fa := Lib.hid fa; clear fa
  have H_hw1 := Lib.hid hw1; clear hw1
  have H_hg := Lib.hid hg; clear hg
  go_wp2_with (fail)
  refine (Scale_any m1 s1 c1 _ hs1).mono ?_
  rintro e w2 ⟨rfl, f2⟩
  have r1 := row_fresh H_r1.out f2
  have r2 := row_fresh H_r2.out f2
  have r3 := row_fresh H_r3.out f2
  have fa := fresh_trans H_fa.out f2
  clear H_r1 H_r2 H_r3 H_fa f2
  clear k0 k1 k2 k3 k4 k5
  obtain ⟨k0, k1, k2, k3, k4, k5⟩ := cells6 r1 r2
  have H_r1 := Lib.hid r1; clear r1
  have H_r2 := Lib.hid r2; clear r2
  have H_r3 := Lib.hid r3; clear r3
  have H_fa := Lib.hid fa; clear fa
  go_wp2_with (fail)
  refine (IsNeg_any m1 s1 c1 _).mono ?_
  rintro e w3 ⟨rfl, f3⟩
  have r1 := row_fresh H_r1.out f3
  have r2 := row_fresh H_r2.out f3
  have r3 := row_fresh H_r3.out f3
  have fa := fresh_trans H_fa.out f3
  clear H_r1 H_r2 H_r3 H_fa f3
  clear k0 k1 k2 k3 k4 k5
  obtain ⟨k0, k1, k2, k3, k4, k5⟩ := cells6 r1 r2
  have H_r1 := Lib.hid r1; clear r1
  have H_r2 := Lib.hid r2; clear r2
  have H_r3 := Lib.hid r3; clear r3
  have H_fa := Lib.hid fa; clear fa
  go_wp2_with (fail)
  refine (Scale_any m1 s2 c2 _ hs2).mono ?_
  rintro e w4 ⟨rfl, f4⟩
  have r1 := row_fresh H_r1.out f4
  have r2 := row_fresh H_r2.out f4
  have r3 := row_fresh H_r3.out f4
  have fa := fresh_trans H_fa.out f4
  clear H_r1 H_r2 H_r3 H_fa f4
  clear k0 k1 k2 k3 k4 k5
  obtain ⟨k0, k1, k2, k3, k4, k5⟩ := cells6 r1 r2
  have H_r1 := Lib.hid r1; clear r1
  have H_r2 := Lib.hid r2; clear r2
  have H_r3 := Lib.hid r3; clear r3
  have H_fa := Lib.hid fa; clear fa
  go_wp2_with (fail)
  refine (Scale_any m1 s2 c2 _ hs2).mono ?_
  rintro e w5 ⟨rfl, f5⟩
  have r1 := row_fresh H_r1.out f5
  have r2 := row_fresh H_r2.out f5
  have r3 := row_fresh H_r3.out f5
  have fa := fresh_trans H_fa.out f5
  clear H_r1 H_r2 H_r3 H_fa f5
  clear k0 k1 k2 k3 k4 k5
  obtain ⟨k0, k1, k2, k3, k4, k5⟩ := cells6 r1 r2
  have H_r1 := Lib.hid r1; clear r1
  have H_r2 := Lib.hid r2; clear r2
  have H_r3 := Lib.hid r3; clear r3
  have H_fa := Lib.hid fa; clear fa
  go_wp2_with (fail)
  refine (Scale_any m1 s2 c2 _ hs2).mono ?_
  rintro e w6 ⟨rfl, f6⟩
  have r1 := row_fresh H_r1.out f6
  have r2 := row_fresh H_r2.out f6
  have r3 := row_fresh H_r3.out f6
  have fa := fresh_trans H_fa.out f6
  clear H_r1 H_r2 H_r3 H_fa f6
  clear k0 k1 k2 k3 k4 k5
  obtain ⟨k0, k1, k2, k3, k4, k5⟩ := cells6 r1 r2
  have H_r1 := Lib.hid r1; clear r1
  have H_r2 := Lib.hid r2; clear r2
  have H_r3 := Lib.hid r3; clear r3
  have H_fa := Lib.hid fa; clear fa
  go_wp2_with (fail)
  refine (H_hlsh.out _ H_fa.out).mono ?_
  rintro e w7 ⟨rfl, hs⟩
  subst hs
  go_wp2_with (fail)
  refine (Scale_any m1 s2 c2 _ hs2).mono ?_
  rintro e w8 ⟨rfl, f8⟩
  have r1 := row_fresh H_r1.out f8
  have r2 := row_fresh H_r2.out f8
  have r3 := row_fresh H_r3.out f8
  have fa := fresh_trans H_fa.out f8
  clear H_r1 H_r2 H_r3 H_fa f8
  clear k0 k1 k2 k3 k4 k5
  obtain ⟨k0, k1, k2, k3, k4, k5⟩ := cells6 r1 r2
  have H_r1 := Lib.hid r1; clear r1
  have H_r2 := Lib.hid r2; clear r2
  have H_r3 := Lib.hid r3; clear r3
  have H_fa := Lib.hid fa; clear fa
  go_wp2_with (fail)
  refine (IsNeg_any m1 s2 c2 _).mono ?_
  rintro e w9 ⟨rfl, f9⟩
  have r1 := row_fresh H_r1.out f9
  have r2 := row_fresh H_r2.out f9
  have r3 := row_fresh H_r3.out f9
  have fa := fresh_trans H_fa.out f9
  clear H_r1 H_r2 H_r3 H_fa f9
  clear k0 k1 k2 k3 k4 k5
  obtain ⟨k0, k1, k2, k3, k4, k5⟩ := cells6 r1 r2
  have H_r1 := Lib.hid r1; clear r1
  have H_r2 := Lib.hid r2; clear r2
  have H_r3 := Lib.hid r3; clear r3
  have H_fa := Lib.hid fa; clear fa
  go_wp2_with (fail)
  refine (H_hadd.out _).mono ?_
  rintro e w10 ⟨rfl, hs⟩
  subst hs
  go_wp2_with (fail)
  refine (H_hnf.out _ H_fa.out).mono ?_
  rintro e w11 ⟨ev, rfl, hev, f9⟩
  have r3 := row_fresh H_r3.out f9
  have p0 := row_cell r3 0
  have p1 := row_cell r3 1
  have p2 := row_cell r3 2
  simp at p0 p1 p2
  have z0 : w11.frozen? ⟨g + 1 + 1, 0, none⟩ = false := frozen_of_row _ _ _ _ _ r3
  have z1 : w11.frozen? ⟨g + 1 + 1, 1, none⟩ = false := frozen_of_row _ _ _ _ _ r3
  have z2 : w11.frozen? ⟨g + 1 + 1, 2, none⟩ = false := frozen_of_row _ _ _ _ _ r3
  have fa := fresh_trans H_fa.out f9
  clear H_r3 H_fa f9 k0 k1 k2 k3 k4 k5
  have H_r3 := Lib.hid r3; clear r3
  have H_fa := Lib.hid fa; clear fa
  have H_hev := Lib.hid hev; clear hev
  go_wp2_with (fail)
  refine bodyPost_ret (results_cell_tmp_row rfl _ _ (g + 1 + 1) 50 #[.bool nz, .int .i8 sz, .int .u64 cz] (0, 0) _ rfl (row_set (row_set (row_set H_r3.out))) Tryz.underlying50 rfl (by kernel_rfl)) rfl ?_
  exact ⟨ev, rfl, H_hev.out, Fresh.set3 H_fa.out (by have := H_hg.out; omega)⟩

set_option maxRecDepth 20000 in
set_option maxHeartbeats 4000000 in
theorem addFint_lt_less (m1 m2 nz : Bool) (c1 s1 c2 s2 : Nat) (w : World) (hP : Pow10s w) (ms : Nat) (hs1 : s1 ≤ 19) (hs2 : s2 ≤ 19) (hc1 : c1 ≤ 9999999999999999999) (hc2 : c2 ≤ 9999999999999999999) (hsc : s1 < s2) (hfit : c1 * 10 ^ (s2 - s1) ≤ 9999999999999999999) (hsg : m1 ≠ m2) (hsum : c1 * 10 ^ (s2 - s1) < c2)
    (sz cz : Nat) (Pv : Value → Prop) (hnf : ∀ W, Fresh w W → Calls Tryz.prog 100 #[.bool m2, .int .u64 (adf (c1 * 10 ^ (s2 - s1)) (c2) : Nat), .int .i64 s2, .int .i64 ms] W (DOut W nz sz cz Pv)) :
    Calls Tryz.prog 85 #[gd m1 s1 c1, gd m2 s2 c2, .int .i64 ms] w (DOut w nz sz cz Pv) := by
  have t1 : decide ((s2 : Int) < (s1 : Int)) = false := by simp; omega
  have t1n : ¬ s2 < s1 := by omega
  have t2 : decide ((s1 : Int) < (s2 : Int)) = true := by simp; omega
  have hlsh := fun W (hW : Fresh w W) => flsh_any c1 (s2 - s1) W (hP.fresh hW) hc1 (by omega)
  obtain ⟨k, hk⟩ : ∃ k, k = s2 - s1 := ⟨_, rfl⟩
  have hkI : (s2 : Int) - (s1 : Int) = (k : Int) := by omega
  have hkw : IntKind.i64.wrap (k : Int) = (k : Int) := wrap_nat k (by omega)
  rw [← hk] at hlsh hfit hsum hnf
  obtain ⟨b, hb⟩ : ∃ b, b = c1 * 10 ^ k := ⟨_, rfl⟩
  rw [← hb] at hlsh hfit hsum hnf
  have hm : mulTo b = .tuple #[.int .u64 b, .bool true] := by unfold mulTo; rw [if_pos hfit]
  rw [hm] at hlsh
  clear hm hb hk
  have t4 : (m1 == m2) = false := by simpa using hsg
  have t5 : decide ((b : Int) < (c2 : Int)) = true := by simp; omega
  have hsub := fun W => fsubAbs_any b c2 W hfit hc2
  generalize adf b c2 = q at *
  have H_hsg := Lib.hid hsg
  clear hsg
  obtain ⟨g, hg⟩ : ∃ g, g = w.heap.size := ⟨_, rfl⟩
  have bx := boxes3 w #[.bool m1, .int .i8 s1, .int .u64 c1] #[.bool m2, .int .i8 s2, .int .u64 c2] #[.bool false, .int .i8 0, .int .u64 0] 50 50 50 g hg
  have H_bx := Lib.hid bx; clear bx
  have H_hP := Lib.hid hP; clear hP
  have H_hnf := Lib.hid hnf; clear hnf
  have H_hlsh := Lib.hid hlsh; clear hlsh
  have H_hsub := Lib.hid hsub; clear hsub
  go_enter Tryz.func85, Tryz.ntmps85
  go_wp2_with (fail)
  generalize hw1 : ((w.alloc _).alloc _).alloc _ = w1
  rw [← hg]
  obtain ⟨r1, r2, r3, fa, _⟩ := H_bx.out w1 hw1
  obtain ⟨k0, k1, k2, k3, k4, k5⟩ := cells6 r1 r2
  have H_r1 := Lib.hid r1; clear r1
  have H_r2 := Lib.hid r2; clear r2
  have H_r3 := Lib.hid r3; clear r3
  have H_fa := Lib.hid fa; clear fa
  have H_hw1 := Lib.hid hw1; clear hw1
  have H_hg := Lib.hid hg; clear hg
  go_wp2_with (fail)
  refine (Scale_any m1 s1 c1 _ hs1).mono ?_
  rintro e w2 ⟨rfl, f2⟩
  have r1 := row_fresh H_r1.out f2
  have r2 := row_fresh H_r2.out f2
  have r3 := row_fresh H_r3.out f2
  have fa := fresh_trans H_fa.out f2
  clear H_r1 H_r2 H_r3 H_fa f2
  clear k0 k1 k2 k3 k4 k5
  obtain ⟨k0, k1, k2, k3, k4, k5⟩ := cells6 r1 r2
  have H_r1 := Lib.hid r1; clear r1
  have H_r2 := Lib.hid r2; clear r2
  have H_r3 := Lib.hid r3; clear r3
  have H_fa := Lib.hid fa; clear fa
  go_wp2_with (fail)
  refine (IsNeg_any m1 s1 c1 _).mono ?_
  rintro e w3 ⟨rfl, f3⟩
  have r1 := row_fresh H_r1.out f3
  have r2 := row_fresh H_r2.out f3
  have r3 := row_fresh H_r3.out f3
  have fa := fresh_trans H_fa.out f3
  clear H_r1 H_r2 H_r3 H_fa f3
  clear k0 k1 k2 k3 k4 k5
  obtain ⟨k0, k1, k2, k3, k4, k5⟩ := cells6 r1 r2
  have H_r1 := Lib.hid r1; clear r1
  have H_r2 := Lib.hid r2; clear r2
  have H_r3 := Lib.hid r3; clear r3
  have H_fa := Lib.hid fa; clear fa
  go_wp2_with (fail)
  refine (Scale_any m2 s2 c2 _ hs2).mono ?_
  rintro e w4 ⟨rfl, f4⟩
  have r1 := row_fresh H_r1.out f4
  have r2 := row_fresh H_r2.out f4
  have r3 := row_fresh H_r3.out f4
  have fa := fresh_trans H_fa.out f4
  clear H_r1 H_r2 H_r3 H_fa f4
  clear k0 k1 k2 k3 k4 k5
  obtain ⟨k0, k1, k2, k3, k4, k5⟩ := cells6 r1 r2
  have H_r1 := Lib.hid r1; clear r1
  have H_r2 := Lib.hid r2; clear r2
  have H_r3 := Lib.hid r3; clear r3
  have H_fa := Lib.hid fa; clear fa
  go_wp2_with (fail)
  refine (Scale_any m2 s2 c2 _ hs2).mono ?_
  rintro e w5 ⟨rfl, f5⟩
  have r1 := row_fresh H_r1.out f5
  have r2 := row_fresh H_r2.out f5
  have r3 := row_fresh H_r3.out f5
  have fa := fresh_trans H_fa.out f5
  clear H_r1 H_r2 H_r3 H_fa f5
  clear k0 k1 k2 k3 k4 k5
  obtain ⟨k0, k1, k2, k3, k4, k5⟩ := cells6 r1 r2
  have H_r1 := Lib.hid r1; clear r1
  have H_r2 := Lib.hid r2; clear r2
  have H_r3 := Lib.hid r3; clear r3
  have H_fa := Lib.hid fa; clear fa
  go_wp2_with (fail)
  refine (Scale_any m2 s2 c2 _ hs2).mono ?_
  rintro e w6 ⟨rfl, f6⟩
  have r1 := row_fresh H_r1.out f6
  have r2 := row_fresh H_r2.out f6
  have r3 := row_fresh H_r3.out f6
  have fa := fresh_trans H_fa.out f6
  clear H_r1 H_r2 H_r3 H_fa f6
  clear k0 k1 k2 k3 k4 k5
  obtain ⟨k0, k1, k2, k3, k4, k5⟩ := cells6 r1 r2
  have H_r1 := Lib.hid r1; clear r1
  have H_r2 := Lib.hid r2; clear r2
  have H_r3 := Lib.hid r3; clear r3
  have H_fa := Lib.hid fa; clear fa
  go_wp2_with (fail)
  refine (H_hlsh.out _ H_fa.out).mono ?_
  rintro e w7 ⟨rfl, hs⟩
  subst hs
  go_wp2_with (fail)
  refine (Scale_any m2 s2 c2 _ hs2).mono ?_
  rintro e w8 ⟨rfl, f8⟩
  have r1 := row_fresh H_r1.out f8
  have r2 := row_fresh H_r2.out f8
  have r3 := row_fresh H_r3.out f8
  have fa := fresh_trans H_fa.out f8
  clear H_r1 H_r2 H_r3 H_fa f8
  clear k0 k1 k2 k3 k4 k5
  obtain ⟨k0, k1, k2, k3, k4, k5⟩ := cells6 r1 r2
  have H_r1 := Lib.hid r1; clear r1
  have H_r2 := Lib.hid r2; clear r2
  have H_r3 := Lib.hid r3; clear r3
  have H_fa := Lib.hid fa; clear fa
  go_wp2_with (fail)
  refine (IsNeg_any m2 s2 c2 _).mono ?_
  rintro e w9 ⟨rfl, f9⟩
  have r1 := row_fresh H_r1.out f9
  have r2 := row_fresh H_r2.out f9
  have r3 := row_fresh H_r3.out f9
  have fa := fresh_trans H_fa.out f9
  clear H_r1 H_r2 H_r3 H_fa f9
  clear k0 k1 k2 k3 k4 k5
  obtain ⟨k0, k1, k2, k3, k4, k5⟩ := cells6 r1 r2
  have H_r1 := Lib.hid r1; clear r1
  have H_r2 := Lib.hid r2; clear r2
  have H_r3 := Lib.hid r3; clear r3
  have H_fa := Lib.hid fa; clear fa
  go_wp2_with (fail)
  refine (IsNeg_any m2 s2 c2 _).mono ?_
  rintro e w10 ⟨rfl, f10⟩
  have r1 := row_fresh H_r1.out f10
  have r2 := row_fresh H_r2.out f10
  have r3 := row_fresh H_r3.out f10
  have fa := fresh_trans H_fa.out f10
  clear H_r1 H_r2 H_r3 H_fa f10
  clear k0 k1 k2 k3 k4 k5
  obtain ⟨k0, k1, k2, k3, k4, k5⟩ := cells6 r1 r2
  have H_r1 := Lib.hid r1; clear r1
  have H_r2 := Lib.hid r2; clear r2
  have H_r3 := Lib.hid r3; clear r3
  have H_fa := Lib.hid fa; clear fa
  go_wp2_with (fail)
  refine (H_hsub.out _).mono ?_
  rintro e w11 ⟨rfl, hs⟩
  subst hs
  go_wp2_with (fail)
  refine (H_hnf.out _ H_fa.out).mono ?_
  rintro e w12 ⟨ev, rfl, hev, f9⟩
  have r3 := row_fresh H_r3.out f9
  have p0 := row_cell r3 0
  have p1 := row_cell r3 1
  have p2 := row_cell r3 2
  simp at p0 p1 p2
  have z0 : w12.frozen? ⟨g + 1 + 1, 0, none⟩ = false := frozen_of_row _ _ _ _ _ r3
  have z1 : w12.frozen? ⟨g + 1 + 1, 1, none⟩ = false := frozen_of_row _ _ _ _ _ r3
  have z2 : w12.frozen? ⟨g + 1 + 1, 2, none⟩ = false := frozen_of_row _ _ _ _ _ r3
  have fa := fresh_trans H_fa.out f9
  clear H_r3 H_fa f9 k0 k1 k2 k3 k4 k5
  have H_r3 := Lib.hid r3; clear r3
  have H_fa := Lib.hid fa; clear fa
  have H_hev := Lib.hid hev; clear hev
  go_wp2_with (fail)
  refine bodyPost_ret (results_cell_tmp_row rfl _ _ (g + 1 + 1) 50 #[.bool nz, .int .i8 sz, .int .u64 cz] (0, 0) _ rfl (row_set (row_set (row_set H_r3.out))) Tryz.underlying50 rfl (by kernel_rfl)) rfl ?_
  exact ⟨ev, rfl, H_hev.out, Fresh.set3 H_fa.out (by have := H_hg.out; omega)⟩

set_option maxRecDepth 20000 in
set_option maxHeartbeats 4000000 in
theorem addFint_lt_more (m1 m2 nz : Bool) (c1 s1 c2 s2 : Nat) (w : World) (hP : Pow10s w) (ms : Nat) (hs1 : s1 ≤ 19) (hs2 : s2 ≤ 19) (hc1 : c1 ≤ 9999999999999999999) (hc2 : c2 ≤ 9999999999999999999) (hsc : s1 < s2) (hfit : c1 * 10 ^ (s2 - s1) ≤ 9999999999999999999) (hsg : m1 ≠ m2) (hsum : ¬ c1 * 10 ^ (s2 - s1) < c2)
    (sz cz : Nat) (Pv : Value → Prop) (hnf : ∀ W, Fresh w W → Calls Tryz.prog 100 #[.bool m1, .int .u64 (adf (c1 * 10 ^ (s2 - s1)) (c2) : Nat), .int .i64 s2, .int .i64 ms] W (DOut W nz sz cz Pv)) :
    Calls Tryz.prog 85 #[gd m1 s1 c1, gd m2 s2 c2, .int .i64 ms] w (DOut w nz sz cz Pv) := by
  have t1 : decide ((s2 : Int) < (s1 : Int)) = false := by simp; omega
  have t1n : ¬ s2 < s1 := by omega
  have t2 : decide ((s1 : Int) < (s2 : Int)) = true := by simp; omega
  have hlsh := fun W (hW : Fresh w W) => flsh_any c1 (s2 - s1) W (hP.fresh hW) hc1 (by omega)
  obtain ⟨k, hk⟩ : ∃ k, k = s2 - s1 := ⟨_, rfl⟩
  have hkI : (s2 : Int) - (s1 : Int) = (k : Int) := by omega
  have hkw : IntKind.i64.wrap (k : Int) = (k : Int) := wrap_nat k (by omega)
  rw [← hk] at hlsh hfit hsum hnf
  obtain ⟨b, hb⟩ : ∃ b, b = c1 * 10 ^ k := ⟨_, rfl⟩
  rw [← hb] at hlsh hfit hsum hnf
  have hm : mulTo b = .tuple #[.int .u64 b, .bool true] := by unfold mulTo; rw [if_pos hfit]
  rw [hm] at hlsh
  clear hm hb hk
  have t4 : (m1 == m2) = false := by simpa using hsg
  have t5 : decide ((b : Int) < (c2 : Int)) = false := by simp; omega
  have hsub := fun W => fsubAbs_any b c2 W hfit hc2
  generalize adf b c2 = q at *
  have H_hsg := Lib.hid hsg
  clear hsg
  obtain ⟨g, hg⟩ : ∃ g, g = w.heap.size := ⟨_, rfl⟩
  have bx := boxes3 w #[.bool m1, .int .i8 s1, .int .u64 c1] #[.bool m2, .int .i8 s2, .int .u64 c2] #[.bool false, .int .i8 0, .int .u64 0] 50 50 50 g hg
  have H_bx := Lib.hid bx; clear bx
  have H_hP := Lib.hid hP; clear hP
  have H_hnf := Lib.hid hnf; clear hnf
  have H_hlsh := Lib.hid hlsh; clear hlsh
  have H_hsub := Lib.hid hsub; clear hsub
  go_enter Tryz.func85, Tryz.ntmps85
  go_wp2_with (fail)
  generalize hw1 : ((w.alloc _).alloc _).alloc _ = w1
  rw [← hg]
  obtain ⟨r1, r2, r3, fa, _⟩ := H_bx.out w1 hw1
  obtain ⟨k0, k1, k2, k3, k4, k5⟩ := cells6 r1 r2
  have H_r1 := Lib.hid r1; clear r1
  have H_r2 := Lib.hid r2; clear r2
  have H_r3 := Lib.hid r3; clear r3
  have H_fa := Lib.hid fa; clear fa
  have H_hw1 := Lib.hid hw1; clear hw1
  have H_hg := Lib.hid hg; clear hg
  go_wp2_with (fail)
  refine (Scale_any m1 s1 c1 _ hs1).mono ?_
  rintro e w2 ⟨rfl, f2⟩
  have r1 := row_fresh H_r1.out f2
  have r2 := row_fresh H_r2.out f2
  have r3 := row_fresh H_r3.out f2
  have fa := fresh_trans H_fa.out f2
  clear H_r1 H_r2 H_r3 H_fa f2
  clear k0 k1 k2 k3 k4 k5
  obtain ⟨k0, k1, k2, k3, k4, k5⟩ := cells6 r1 r2
  have H_r1 := Lib.hid r1; clear r1
  have H_r2 := Lib.hid r2; clear r2
  have H_r3 := Lib.hid r3; clear r3
  have H_fa := Lib.hid fa; clear fa
  go_wp2_with (fail)
  refine (IsNeg_any m1 s1 c1 _).mono ?_
  rintro e w3 ⟨rfl, f3⟩
  have r1 := row_fresh H_r1.out f3
  have r2 := row_fresh H_r2.out f3
  have r3 := row_fresh H_r3.out f3
  have fa := fresh_trans H_fa.out f3
  clear H_r1 H_r2 H_r3 H_fa f3
  clear k0 k1 k2 k3 k4 k5
  obtain ⟨k0, k1, k2, k3, k4, k5⟩ := cells6 r1 r2
  have H_r1 := Lib.hid r1; clear r1
  have H_r2 := Lib.hid r2; clear r2
  have H_r3 := Lib.hid r3; clear r3
  have H_fa := Lib.hid fa; clear fa
  go_wp2_with (fail)
  refine (Scale_any m2 s2 c2 _ hs2).mono ?_
  rintro e w4 ⟨rfl, f4⟩
  have r1 := row_fresh H_r1.out f4
  have r2 := row_fresh H_r2.out f4
  have r3 := row_fresh H_r3.out f4
  have fa := fresh_trans H_fa.out f4
  clear H_r1 H_r2 H_r3 H_fa f4
  clear k0 k1 k2 k3 k4 k5
  obtain ⟨k0, k1, k2, k3, k4, k5⟩ := cells6 r1 r2
  have H_r1 := Lib.hid r1; clear r1
  have H_r2 := Lib.hid r2; clear r2
  have H_r3 := Lib.hid r3; clear r3
  have H_fa := Lib.hid fa; clear fa
  go_wp2_with (fail)
  refine (Scale_any m2 s2 c2 _ hs2).mono ?_
  rintro e w5 ⟨rfl, f5⟩
  have r1 := row_fresh H_r1.out f5
  have r2 := row_fresh H_r2.out f5
  have r3 := row_fresh H_r3.out f5
  have fa := fresh_trans H_fa.out f5
  clear H_r1 H_r2 H_r3 H_fa f5
  clear k0 k1 k2 k3 k4 k5
  obtain ⟨k0, k1, k2, k3, k4, k5⟩ := cells6 r1 r2
  have H_r1 := Lib.hid r1; clear r1
  have H_r2 := Lib.hid r2; clear r2
  have H_r3 := Lib.hid r3; clear r3
  have H_fa := Lib.hid fa; clear fa
  go_wp2_with (fail)
  refine (Scale_any m2 s2 c2 _ hs2).mono ?_
  rintro e w6 ⟨rfl, f6⟩
  have r1 := row_fresh H_r1.out f6
  have r2 := row_fresh H_r2.out f6
  have r3 := row_fresh H_r3.out f6
  have fa := fresh_trans H_fa.out f6
  clear H_r1 H_r2 H_r3 H_fa f6
  clear k0 k1 k2 k3 k4 k5
  obtain ⟨k0, k1, k2, k3, k4, k5⟩ := cells6 r1 r2
  have H_r1 := Lib.hid r1; clear r1
  have H_r2 := Lib.hid r2; clear r2
  have H_r3 := Lib.hid r3; clear r3
  have H_fa := Lib.hid fa; clear fa
  go_wp2_with (fail)
  refine (H_hlsh.out _ H_fa.out).mono ?_
  rintro e w7 ⟨rfl, hs⟩
  subst hs
  go_wp2_with (fail)
  refine (Scale_any m2 s2 c2 _ hs2).mono ?_
  rintro e w8 ⟨rfl, f8⟩
  have r1 := row_fresh H_r1.out f8
  have r2 := row_fresh H_r2.out f8
  have r3 := row_fresh H_r3.out f8
  have fa := fresh_trans H_fa.out f8
  clear H_r1 H_r2 H_r3 H_fa f8
  clear k0 k1 k2 k3 k4 k5
  obtain ⟨k0, k1, k2, k3, k4, k5⟩ := cells6 r1 r2
  have H_r1 := Lib.hid r1; clear r1
  have H_r2 := Lib.hid r2; clear r2
  have H_r3 := Lib.hid r3; clear r3
  have H_fa := Lib.hid fa; clear fa
  go_wp2_with (fail)
  refine (IsNeg_any m2 s2 c2 _).mono ?_
  rintro e w9 ⟨rfl, f9⟩
  have r1 := row_fresh H_r1.out f9
  have r2 := row_fresh H_r2.out f9
  have r3 := row_fresh H_r3.out f9
  have fa := fresh_trans H_fa.out f9
  clear H_r1 H_r2 H_r3 H_fa f9
  clear k0 k1 k2 k3 k4 k5
  obtain ⟨k0, k1, k2, k3, k4, k5⟩ := cells6 r1 r2
  have H_r1 := Lib.hid r1; clear r1
  have H_r2 := Lib.hid r2; clear r2
  have H_r3 := Lib.hid r3; clear r3
  have H_fa := Lib.hid fa; clear fa
  go_wp2_with (fail)
  refine (H_hsub.out _).mono ?_
  rintro e w10 ⟨rfl, hs⟩
  subst hs
  go_wp2_with (fail)
  refine (H_hnf.out _ H_fa.out).mono ?_
  rintro e w11 ⟨ev, rfl, hev, f9⟩
  have r3 := row_fresh H_r3.out f9
  have p0 := row_cell r3 0
  have p1 := row_cell r3 1
  have p2 := row_cell r3 2
  simp at p0 p1 p2
  have z0 : w11.frozen? ⟨g + 1 + 1, 0, none⟩ = false := frozen_of_row _ _ _ _ _ r3
  have z1 : w11.frozen? ⟨g + 1 + 1, 1, none⟩ = false := frozen_of_row _ _ _ _ _ r3
  have z2 : w11.frozen? ⟨g + 1 + 1, 2, none⟩ = false := frozen_of_row _ _ _ _ _ r3
  have fa := fresh_trans H_fa.out f9
  clear H_r3 H_fa f9 k0 k1 k2 k3 k4 k5
  have H_r3 := Lib.hid r3; clear r3
  have H_fa := Lib.hid fa; clear fa
  have H_hev := Lib.hid hev; clear hev
  go_wp2_with (fail)
  refine bodyPost_ret (results_cell_tmp_row rfl _ _ (g + 1 + 1) 50 #[.bool nz, .int .i8 sz, .int .u64 cz] (0, 0) _ rfl (row_set (row_set (row_set H_r3.out))) Tryz.underlying50 rfl (by kernel_rfl)) rfl ?_
  exact ⟨ev, rfl, H_hev.out, Fresh.set3 H_fa.out (by have := H_hg.out; omega)⟩

end Go.Proofs.YtjdfapoomjeabaaGreatDoor

/- Sums by whole numbers of 64 bits: a result, or a fault. -/
namespace Go.Proofs.YtjdfapoomjeabaaGreatDoor
open Go.RowKit

/-- what a sum does, at the coefficients brought to one scale -/
theorem add_core (f : FuncId) (args : Array Value) (m1 m2 : Bool) (c1 s1 c2 s2 ms a e S : Nat) (hms : ms ≤ 19) (hs1 : s1 ≤ 19) (hs2 : s2 ≤ 19) (ha : a = c1 * 10 ^ (s2 - s1)) (he : e = c2 * 10 ^ (s1 - s2)) (hS : S = max s1 s2) (hC : sumC m1 m2 a e ≤ 9999999999999999999)
    (go : ∀ w nz sz cz Pv, Pow10s w → (∀ W, Fresh w W → Calls Tryz.prog 100 #[.bool (sumS m1 m2 a e), .int .u64 (sumC m1 m2 a e : Nat), .int .i64 S, .int .i64 ms] W (DOut W nz sz cz Pv)) → Calls Tryz.prog f args w (DOut w nz sz cz Pv)) :
    (∀ w, Pow10s w → ErrIs w → Calls Tryz.prog f args w (ClampErr w)) ∨
    ∃ nz sz cz, (∀ w, Pow10s w → ErrIs w → Calls Tryz.prog f args w (VRet w (.tuple #[gd nz sz cz, .nilIface]))) ∧ ResOK (zfix m1 c1 * ((10 ^ s2 : Nat) : Int) + zfix m2 c2 * ((10 ^ s1 : Nat) : Int)) (10 ^ s1 * 10 ^ s2) ms nz sz cz := by
  have hd : 0 < 10 ^ s1 * 10 ^ s2 := Nat.mul_pos (Nat.pow_pos (by omega)) (Nat.pow_pos (by omega))
  rcases nf_law (sumS m1 m2 a e) (sumC m1 m2 a e) S ms hC (by omega) hms with herr | ⟨s, c, hok, hle, hgood⟩
  · exact .inl fun w hP hE => (go w false 0 0 AnErr hP (fun W hW => (herr W (hP.fresh hW) (hE.fresh hW)).mono (fun _ _ h => DOut.of_err h))).mono (fun _ _ h => h.err)
  · refine .inr ⟨_, s, c, fun w hP hE => (go w _ s c NoErr hP (fun W hW => (hok W (hP.fresh hW)).mono (fun _ _ h => DOut.of_ok h))).mono (fun _ _ h => h.ok), ?_⟩
    subst ha he hS
    have hsn := add_sign m1 m2 c1 s1 c2 s2
    exact res_ok hd (hgood _ _ hd (add_frac m1 m2 c1 s1 c2 s2)) hle hsn.1 hsn.2

theorem addFint_law (m1 m2 : Bool) (c1 s1 c2 s2 ms : Nat) (hms : ms ≤ 19) (hs1 : s1 ≤ 19) (hs2 : s2 ≤ 19) (hc1 : c1 ≤ 9999999999999999999) (hc2 : c2 ≤ 9999999999999999999) :
    (∀ w, Pow10s w → ErrIs w → Calls Tryz.prog 85 #[gd m1 s1 c1, gd m2 s2 c2, .int .i64 ms] w (ClampErr w)) ∨
    ∃ nz sz cz, (∀ w, Pow10s w → ErrIs w → Calls Tryz.prog 85 #[gd m1 s1 c1, gd m2 s2 c2, .int .i64 ms] w (VRet w (.tuple #[gd nz sz cz, .nilIface]))) ∧ ResOK (zfix m1 c1 * ((10 ^ s2 : Nat) : Int) + zfix m2 c2 * ((10 ^ s1 : Nat) : Int)) (10 ^ s1 * 10 ^ s2) ms nz sz cz := by
  have z0 : ∀ x y : Nat, x ≤ y → x - y = 0 := fun x y h => by omega
  rcases Nat.lt_trichotomy s1 s2 with h | h | h
  · have ee : c2 = c2 * 10 ^ (s1 - s2) := by rw [z0 s1 s2 (by omega)]; simp
    by_cases hfit : c1 * 10 ^ (s2 - s1) ≤ 9999999999999999999
    · by_cases hm : m1 = m2
      · subst hm
        by_cases hsum : c1 * 10 ^ (s2 - s1) + c2 ≤ 9999999999999999999
        · exact add_core _ _ m1 m1 c1 s1 c2 s2 ms _ _ s2 hms hs1 hs2 rfl ee (by omega) (by rw [sumC_same]; exact hsum) (fun w nz sz cz Pv hP hnf => addFint_lt_same m1 m1 nz c1 s1 c2 s2 w hP ms hs1 hs2 hc1 hc2 h hfit rfl hsum sz cz Pv (by rw [sumS_same, sumC_same] at hnf; exact hnf))
        · exact .inl fun w hP hE => addFint_lt_addno m1 m1 c1 s1 c2 s2 w hP hE ms hs1 hs2 hc1 hc2 h hfit rfl hsum
      · by_cases hsum : c1 * 10 ^ (s2 - s1) < c2
        · exact add_core _ _ m1 m2 c1 s1 c2 s2 ms _ _ s2 hms hs1 hs2 rfl ee (by omega) (by rw [sumC_diff hm]; exact adf_le hfit hc2) (fun w nz sz cz Pv hP hnf => addFint_lt_less m1 m2 nz c1 s1 c2 s2 w hP ms hs1 hs2 hc1 hc2 h hfit hm hsum sz cz Pv (by rw [sumS_less hm hsum, sumC_diff hm] at hnf; exact hnf))
        · exact add_core _ _ m1 m2 c1 s1 c2 s2 ms _ _ s2 hms hs1 hs2 rfl ee (by omega) (by rw [sumC_diff hm]; exact adf_le hfit hc2) (fun w nz sz cz Pv hP hnf => addFint_lt_more m1 m2 nz c1 s1 c2 s2 w hP ms hs1 hs2 hc1 hc2 h hfit hm hsum sz cz Pv (by rw [sumS_more hm hsum, sumC_diff hm] at hnf; exact hnf))
    · exact .inl fun w hP hE => addFint_lt_lshno m1 m2 c1 s1 c2 s2 w hP hE ms hs1 hs2 hc1 hc2 h hfit
  · have ea : c1 = c1 * 10 ^ (s2 - s1) := by rw [z0 s2 s1 (by omega)]; simp
    have ee : c2 = c2 * 10 ^ (s1 - s2) := by rw [z0 s1 s2 (by omega)]; simp
    by_cases hm : m1 = m2
    · subst hm
      by_cases hsum : c1 + c2 ≤ 9999999999999999999
      · exact add_core _ _ m1 m1 c1 s1 c2 s2 ms _ _ s1 hms hs1 hs2 ea ee (by omega) (by rw [sumC_same]; exact hsum) (fun w nz sz cz Pv hP hnf => addFint_eq_same m1 m1 nz c1 s1 c2 s2 w hP ms hs1 hs2 hc1 hc2 h rfl hsum sz cz Pv (by rw [sumS_same, sumC_same] at hnf; exact hnf))
      · exact .inl fun w hP hE => addFint_eq_addno m1 m1 c1 s1 c2 s2 w hP hE ms hs1 hs2 hc1 hc2 h rfl hsum
    · by_cases hsum : c1 < c2
      · exact add_core _ _ m1 m2 c1 s1 c2 s2 ms _ _ s1 hms hs1 hs2 ea ee (by omega) (by rw [sumC_diff hm]; exact adf_le hc1 hc2) (fun w nz sz cz Pv hP hnf => addFint_eq_less m1 m2 nz c1 s1 c2 s2 w hP ms hs1 hs2 hc1 hc2 h hm hsum sz cz Pv (by rw [sumS_less hm hsum, sumC_diff hm] at hnf; exact hnf))
      · exact add_core _ _ m1 m2 c1 s1 c2 s2 ms _ _ s1 hms hs1 hs2 ea ee (by omega) (by rw [sumC_diff hm]; exact adf_le hc1 hc2) (fun w nz sz cz Pv hP hnf => addFint_eq_more m1 m2 nz c1 s1 c2 s2 w hP ms hs1 hs2 hc1 hc2 h hm hsum sz cz Pv (by rw [sumS_more hm hsum, sumC_diff hm] at hnf; exact hnf))
  · have ea : c1 = c1 * 10 ^ (s2 - s1) := by rw [z0 s2 s1 (by omega)]; simp
    by_cases hfit : c2 * 10 ^ (s1 - s2) ≤ 9999999999999999999
    · by_cases hm : m1 = m2
      · subst hm
        by_cases hsum : c1 + c2 * 10 ^ (s1 - s2) ≤ 9999999999999999999
        · exact add_core _ _ m1 m1 c1 s1 c2 s2 ms _ _ s1 hms hs1 hs2 ea rfl (by omega) (by rw [sumC_same]; exact hsum) (fun w nz sz cz Pv hP hnf => addFint_gt_same m1 m1 nz c1 s1 c2 s2 w hP ms hs1 hs2 hc1 hc2 h hfit rfl hsum sz cz Pv (by rw [sumS_same, sumC_same] at hnf; exact hnf))
        · exact .inl fun w hP hE => addFint_gt_addno m1 m1 c1 s1 c2 s2 w hP hE ms hs1 hs2 hc1 hc2 h hfit rfl hsum
      · by_cases hsum : c1 < c2 * 10 ^ (s1 - s2)
        · exact add_core _ _ m1 m2 c1 s1 c2 s2 ms _ _ s1 hms hs1 hs2 ea rfl (by omega) (by rw [sumC_diff hm]; exact adf_le hc1 hfit) (fun w nz sz cz Pv hP hnf => addFint_gt_less m1 m2 nz c1 s1 c2 s2 w hP ms hs1 hs2 hc1 hc2 h hfit hm hsum sz cz Pv (by rw [sumS_less hm hsum, sumC_diff hm] at hnf; exact hnf))
        · exact add_core _ _ m1 m2 c1 s1 c2 s2 ms _ _ s1 hms hs1 hs2 ea rfl (by omega) (by rw [sumC_diff hm]; exact adf_le hc1 hfit) (fun w nz sz cz Pv hP hnf => addFint_gt_more m1 m2 nz c1 s1 c2 s2 w hP ms hs1 hs2 hc1 hc2 h hfit hm hsum sz cz Pv (by rw [sumS_more hm hsum, sumC_diff hm] at hnf; exact hnf))
    · exact .inl fun w hP hE => addFint_gt_lshno m1 m2 c1 s1 c2 s2 w hP hE ms hs1 hs2 hc1 hc2 h hfit

end Go.Proofs.YtjdfapoomjeabaaGreatDoor
