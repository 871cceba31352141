/- gvLives: 1.5 and 2 are 3.5: AddExact, Add. -/
import Derived.Test.YthemaneoighaoaaGreatDoorLv
namespace Go.Proofs.YthemaneoighaoaaGreatDoor
open Go.RowKit

set_option maxRecDepth 20000 in
set_option maxHeartbeats 2000000 in
theorem AddExact_lives (w : World) : Calls Tryz.prog 74 #[gd false 1 15, gd false 0 2, .int .i64 0] w (VRet w (.tuple #[gd false 1 35, .nilIface])) := by
  obtain ⟨g, hg⟩ : ∃ g, g = w.heap.size := ⟨_, rfl⟩
  have bx := boxes3 w #[.bool false, .int .i8 (1 : Nat), .int .u64 (15 : Nat)] #[.bool false, .int .i8 (0 : Nat), .int .u64 (2 : Nat)] #[.bool false, .int .i8 0, .int .u64 0] 59 59 59 g hg
  have H_bx := Lib.hid bx; clear bx
  go_enter Tryz.func74, Tryz.ntmps74
  go_wp2_with (fail)
  generalize hw1 : ((w.alloc _).alloc _).alloc _ = w1
  rw [← hg]
  obtain ⟨b1, b2, b3, hf, hgs⟩ := H_bx.out w1 hw1
  have H_b1 := Lib.hid b1; clear b1
  have H_b2 := Lib.hid b2; clear b2
  have H_b3 := Lib.hid b3; clear b3
  have H_hf := Lib.hid hf; clear hf
  have H_hw1 := Lib.hid hw1; clear hw1
  have H_hg := Lib.hid hg; clear hg
  have H_hgs := Lib.hid hgs; clear hgs
  refine (addFint_lives _).mono ?_
  rintro e w2 ⟨rfl, f2⟩
  have f3 := fresh_trans f2 ((Keep.refl (fun _ => False) w2).alloc (.cells #[.bool false, .int .i8 1, .int .u64 35] 59))
  have b4 := row_fresh H_b3.out f3
  have p0 := row_cell b4 0
  have p1 := row_cell b4 1
  have p2 := row_cell b4 2
  have q0 := frozen_of_row _ _ 0 _ _ b4
  have q1 := frozen_of_row _ _ 1 _ _ b4
  have q2 := frozen_of_row _ _ 2 _ _ b4
  have H_f2 := Lib.hid f2; clear f2
  have H_f3 := Lib.hid f3; clear f3
  have H_b4 := Lib.hid b4; clear b4
  go_wp2_with (fail)
  refine bodyPost_ret (results_cell_tmp_row rfl _ _ (g + 1 + 1) 59 #[.bool false, .int .i8 1, .int .u64 35] (0, 0) _ rfl (row_set (row_set (row_set H_b4.out))) Tryz.underlying59 rfl (by kernel_rfl)) rfl ?_
  exact ⟨rfl, Fresh.set3 (fresh_trans H_hf.out H_f3.out) (by have := H_hg.out; omega)⟩

set_option maxRecDepth 20000 in
set_option maxHeartbeats 2000000 in
theorem Add_lives (w : World) : Calls Tryz.prog 67 #[gd false 1 15, gd false 0 2] w (VRet w (.tuple #[gd false 1 35, .nilIface])) := by
  obtain ⟨g, hg⟩ : ∃ g, g = w.heap.size := ⟨_, rfl⟩
  have bx := boxes3 w #[.bool false, .int .i8 (1 : Nat), .int .u64 (15 : Nat)] #[.bool false, .int .i8 (0 : Nat), .int .u64 (2 : Nat)] #[.bool false, .int .i8 0, .int .u64 0] 59 59 59 g hg
  have H_bx := Lib.hid bx; clear bx
  go_enter Tryz.func67, Tryz.ntmps67
  go_wp2_with (fail)
  generalize hw1 : ((w.alloc _).alloc _).alloc _ = w1
  rw [← hg]
  obtain ⟨b1, b2, b3, hf, hgs⟩ := H_bx.out w1 hw1
  have H_b1 := Lib.hid b1; clear b1
  have H_b2 := Lib.hid b2; clear b2
  have H_b3 := Lib.hid b3; clear b3
  have H_hf := Lib.hid hf; clear hf
  have H_hw1 := Lib.hid hw1; clear hw1
  have H_hg := Lib.hid hg; clear hg
  have H_hgs := Lib.hid hgs; clear hgs
  refine (AddExact_lives _).mono ?_
  rintro e w2 ⟨rfl, f2⟩
  have b4 := row_fresh H_b3.out f2
  have p0 := row_cell b4 0
  have p1 := row_cell b4 1
  have p2 := row_cell b4 2
  simp at p0 p1 p2
  have q0 := frozen_of_row _ _ 0 _ _ b4
  have q1 := frozen_of_row _ _ 1 _ _ b4
  have q2 := frozen_of_row _ _ 2 _ _ b4
  have H_f2 := Lib.hid f2; clear f2
  have H_b4 := Lib.hid b4; clear b4
  go_wp2_with (fail)
  refine bodyPost_ret (results_cell_tmp_row rfl _ _ (g + 1 + 1) 59 #[.bool false, .int .i8 1, .int .u64 35] (0, 0) _ rfl (row_set (row_set (row_set H_b4.out))) Tryz.underlying59 rfl (by kernel_rfl)) rfl ?_
  exact ⟨rfl, Fresh.set3 (fresh_trans H_hf.out H_f2.out) (by have := H_hg.out; omega)⟩

end Go.Proofs.YthemaneoighaoaaGreatDoor
