/- gvLives: 1.5 and 2 are 3.5. -/
import Derived.Test.YthemaneoighaoaaGreatDoorFsE
namespace Go.Proofs.YthemaneoighaoaaGreatDoor
open Go.RowKit

theorem lsh_lives (w : World) : Calls Tryz.prog 78 #[.int .u64 2, .int .i64 1] w (fun e w' => e = .returned (.tuple #[.int .u64 20, .bool true]) ∧ w' = w) := by
  go_enter Tryz.func78, Tryz.ntmps78
  go_wp2
  go_ret2
  exact ⟨rfl, rfl⟩

theorem add_lives (w : World) : Calls Tryz.prog 79 #[.int .u64 15, .int .u64 20] w (fun e w' => e = .returned (.tuple #[.int .u64 35, .bool true]) ∧ w' = w) := by
  go_enter Tryz.func79, Tryz.ntmps79
  go_wp2
  go_ret2
  exact ⟨rfl, rfl⟩

theorem newFromFint_lives (w : World) : Calls Tryz.prog 81 #[.bool false, .int .u64 35, .int .i64 1, .int .i64 0] w (VRet w (.tuple #[gd false 1 35, .nilIface])) := by
  go_enter Tryz.func81, Tryz.ntmps81
  go_wp2_with (fail)
  refine (newSafe_any false 1 35 _ (by omega) (by omega)).mono ?_
  rintro e w2 ⟨rfl, hf⟩
  have b := row_fresh (heap_alloc_new w _) hf
  have p0 := row_cell b 0
  have p1 := row_cell b 1
  have p2 := row_cell b 2
  simp at p0 p1 p2
  have q0 : w2.frozen? ⟨w.heap.size, 0, none⟩ = false := frozen_of_row _ _ _ _ _ b
  have q1 : w2.frozen? ⟨w.heap.size, 1, none⟩ = false := frozen_of_row _ _ _ _ _ b
  have q2 : w2.frozen? ⟨w.heap.size, 2, none⟩ = false := frozen_of_row _ _ _ _ _ b
  have H_b := Lib.hid b; clear b
  have H_hf := Lib.hid hf; clear hf
  go_wp2_with (fail)
  refine bodyPost_ret (results_cell_tmp_row rfl _ _ w.heap.size 59 #[.bool false, .int .i8 1, .int .u64 35] (0, 0) _ rfl (row_set (row_set (row_set H_b.out))) Tryz.underlying59 rfl (by kernel_rfl)) rfl ?_
  exact ⟨rfl, Fresh.set3 (fresh_trans ((Keep.refl _ _).alloc _) H_hf.out) (Nat.le_refl _)⟩

set_option maxRecDepth 20000 in
set_option maxHeartbeats 2000000 in
theorem addFint_lives (w : World) : Calls Tryz.prog 76 #[gd false 1 15, gd false 0 2, .int .i64 0] w (VRet w (.tuple #[gd false 1 35, .nilIface])) := by
  obtain ⟨g, hg⟩ : ∃ g, g = w.heap.size := ⟨_, rfl⟩
  have bx := boxes3 w #[.bool false, .int .i8 (1 : Nat), .int .u64 (15 : Nat)] #[.bool false, .int .i8 (0 : Nat), .int .u64 (2 : Nat)] #[.bool false, .int .i8 0, .int .u64 0] 59 59 59 g hg
  have H_bx := Lib.hid bx; clear bx
  go_enter Tryz.func76, Tryz.ntmps76
  go_wp2_with (fail)
  generalize hw1 : ((w.alloc _).alloc _).alloc _ = w1
  rw [← hg]
  obtain ⟨b1, b2, b3, hf, hgs⟩ := H_bx.out w1 hw1
  have k0 := row_cell b1 0
  have k1 := row_cell b1 1
  have k2 := row_cell b1 2
  have k3 := row_cell b2 0
  have k4 := row_cell b2 1
  have k5 := row_cell b2 2
  simp at k0 k1 k2 k3 k4 k5
  have H_b1 := Lib.hid b1; clear b1
  have H_b2 := Lib.hid b2; clear b2
  have H_b3 := Lib.hid b3; clear b3
  have H_hf := Lib.hid hf; clear hf
  have H_hw1 := Lib.hid hw1; clear hw1
  have H_hg := Lib.hid hg; clear hg
  have H_hgs := Lib.hid hgs; clear hgs
  refine (Scale_any false 1 15 _ (by omega)).mono ?_
  rintro e w2 ⟨rfl, f2⟩
  have m0 := cell_fresh k0 f2
  have m1 := cell_fresh k1 f2
  have m2 := cell_fresh k2 f2
  have m3 := cell_fresh k3 f2
  have m4 := cell_fresh k4 f2
  have m5 := cell_fresh k5 f2
  clear k0 k1 k2 k3 k4 k5
  have H_f2 := Lib.hid f2
  clear f2
  go_wp2_with (fail)
  refine (IsNeg_any false 1 15 _).mono ?_
  rintro e w3 ⟨rfl, f3⟩
  have n0 := cell_fresh m0 f3
  have n1 := cell_fresh m1 f3
  have n2 := cell_fresh m2 f3
  have n3 := cell_fresh m3 f3
  have n4 := cell_fresh m4 f3
  have n5 := cell_fresh m5 f3
  clear m0 m1 m2 m3 m4 m5
  have H_f3 := Lib.hid f3
  clear f3
  go_wp2_with (fail)
  refine (Scale_any false 0 2 _ (by omega)).mono ?_
  rintro e w4 ⟨rfl, f4⟩
  have o0 := cell_fresh n0 f4
  have o1 := cell_fresh n1 f4
  have o2 := cell_fresh n2 f4
  have o3 := cell_fresh n3 f4
  have o4 := cell_fresh n4 f4
  have o5 := cell_fresh n5 f4
  clear n0 n1 n2 n3 n4 n5
  have H_f4 := Lib.hid f4
  clear f4
  go_wp2_with (fail)
  refine (Scale_any false 0 2 _ (by omega)).mono ?_
  rintro e w5 ⟨rfl, f5⟩
  have u0 := cell_fresh o0 f5
  have u1 := cell_fresh o1 f5
  have u2 := cell_fresh o2 f5
  have u3 := cell_fresh o3 f5
  have u4 := cell_fresh o4 f5
  have u5 := cell_fresh o5 f5
  clear o0 o1 o2 o3 o4 o5
  have H_f5 := Lib.hid f5
  clear f5
  go_wp2_with (fail)
  refine (lsh_lives _).mono ?_
  rintro e _ ⟨rfl, rfl⟩
  go_wp2_with (fail)
  refine (IsNeg_any false 0 2 _).mono ?_
  rintro e w6 ⟨rfl, f6⟩
  have v0 := cell_fresh u0 f6
  have v1 := cell_fresh u1 f6
  have v2 := cell_fresh u2 f6
  have v3 := cell_fresh u3 f6
  have v4 := cell_fresh u4 f6
  have v5 := cell_fresh u5 f6
  clear u0 u1 u2 u3 u4 u5
  have H_f6 := Lib.hid f6
  clear f6
  go_wp2_with (fail)
  refine (add_lives _).mono ?_
  rintro e _ ⟨rfl, rfl⟩
  go_wp2_with (fail)
  refine (newFromFint_lives _).mono ?_
  rintro e w7 ⟨rfl, f7⟩
  have hfa : Fresh w1 w7 := fresh_trans (fresh_trans (fresh_trans (fresh_trans (fresh_trans H_f2.out H_f3.out) H_f4.out) H_f5.out) H_f6.out) f7
  have b4 := row_fresh H_b3.out hfa
  have p0 := row_cell b4 0
  have p1 := row_cell b4 1
  have p2 := row_cell b4 2
  simp at p0 p1 p2
  have q0 : w7.frozen? ⟨g + 1 + 1, 0, none⟩ = false := frozen_of_row _ _ _ _ _ b4
  have q1 : w7.frozen? ⟨g + 1 + 1, 1, none⟩ = false := frozen_of_row _ _ _ _ _ b4
  have q2 : w7.frozen? ⟨g + 1 + 1, 2, none⟩ = false := frozen_of_row _ _ _ _ _ b4
  have H_b4 := Lib.hid b4; clear b4
  have H_hfa := Lib.hid hfa; clear hfa
  have H_f7 := Lib.hid f7; clear f7
  go_wp2_with (fail)
  refine bodyPost_ret (results_cell_tmp_row rfl _ _ (g + 1 + 1) 59 #[.bool false, .int .i8 1, .int .u64 35] (0, 0) _ rfl (row_set (row_set (row_set H_b4.out))) Tryz.underlying59 rfl (by kernel_rfl)) rfl ?_
  exact ⟨rfl, Fresh.set3 (fresh_trans H_hf.out H_hfa.out) (by have := H_hg.out; omega)⟩

end Go.Proofs.YthemaneoighaoaaGreatDoor
