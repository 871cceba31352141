/- govalues: Decimal.SubAbs. -/
import Derived.Test.YtjdfapoomjeabaaGreatDoorK55
import Derived.Test.YtjdfapoomjeabaaGreatDoorK70
namespace Go.Proofs.YtjdfapoomjeabaaGreatDoor
open Go.RowKit

set_option maxRecDepth 20000 in
set_option maxHeartbeats 4000000 in
theorem SubAbs_ok (m1 m2 nz : Bool) (c1 s1 c2 s2 sz cz : Nat) (w : World) (hsz : sz ≤ 19)
    (hX : ∀ W, Fresh w W → Calls Tryz.prog 49 #[gd m1 s1 c1, gd m2 s2 c2] W (VRet W (.tuple #[gd nz sz cz, .nilIface]))) :
    Calls Tryz.prog 52 #[gd m1 s1 c1, gd m2 s2 c2] w (VRet w (.tuple #[gd (false && decide (0 < cz)) sz cz, .nilIface])) := by
  have habs := fun W => Abs_any nz sz cz W hsz
  rw [Bool.false_and] at habs ⊢
  obtain ⟨g, hg⟩ : ∃ g, g = w.heap.size := ⟨_, rfl⟩
  have bx := boxes3 w #[.bool m1, .int .i8 s1, .int .u64 c1] #[.bool m2, .int .i8 s2, .int .u64 c2] #[.bool false, .int .i8 0, .int .u64 0] 50 50 50 g hg
  have H_bx := Lib.hid bx; clear bx
  have H_hX := Lib.hid hX; clear hX
  have H_habs := Lib.hid habs; clear habs
  go_enter Tryz.func52, Tryz.ntmps52
  go_wp2_with (fail)
  generalize hw1 : ((w.alloc _).alloc _).alloc _ = w1
  rw [← hg]
  obtain ⟨r1, r2, r3, fa, _⟩ := H_bx.out w1 hw1
  have H_r1 := Lib.hid r1; clear r1
  have H_r2 := Lib.hid r2; clear r2
  have H_r3 := Lib.hid r3; clear r3
  have H_fa := Lib.hid fa; clear fa
  have H_hw1 := Lib.hid hw1; clear hw1
  have H_hg := Lib.hid hg; clear hg
  refine (H_hX.out _ H_fa.out).mono ?_
  rintro e w2 ⟨rfl, f2⟩
  have r1 := row_fresh H_r1.out f2
  have r2 := row_fresh H_r2.out f2
  have r3 := row_fresh H_r3.out f2
  have fa := fresh_trans H_fa.out f2
  obtain ⟨h8, hh8⟩ : ∃ h, h = w2.heap.size := ⟨_, rfl⟩
  clear H_r1 H_r2 H_r3 H_fa
  have hlt3 := row_lt3 r3
  have H_r1 := Lib.hid r1; clear r1
  have H_r2 := Lib.hid r2; clear r2
  have H_r3 := Lib.hid r3; clear r3
  have H_fa := Lib.hid fa; clear fa
  have H_f2 := Lib.hid f2; clear f2
  have H_hh8 := Lib.hid hh8; clear hh8
  have H_hlt3 := Lib.hid hlt3; clear hlt3
  go_wp2_with (fail)
  generalize hw3 : w2.alloc _ = w3
  have f3 : Fresh w2 w3 := by rw [← hw3]; exact (Keep.refl _ _).alloc _
  have r8 : w3.heap[h8]? = some (.cells #[.bool nz, .int .i8 sz, .int .u64 cz] 50 (0, 0)) := by rw [← hw3, H_hh8.out]; exact heap_alloc_new w2 _
  try rw [← H_hh8.out]
  have r3 := row_fresh H_r3.out f3
  have fa := fresh_trans H_fa.out f3
  clear H_r1 H_r2 H_r3 H_fa
  have x0 := row_cell r8 0
  have x1 := row_cell r8 1
  have x2 := row_cell r8 2
  simp at x0 x1 x2
  have H_r3 := Lib.hid r3; clear r3
  have H_fa := Lib.hid fa; clear fa
  have H_f3 := Lib.hid f3; clear f3
  have H_r8 := Lib.hid r8; clear r8
  have H_hw3 := Lib.hid hw3; clear hw3
  try go_wp2_with (fail)
  refine (H_habs.out _).mono ?_
  rintro e w6 ⟨rfl, f6⟩
  have r3 := row_fresh H_r3.out f6
  have fa := fresh_trans H_fa.out f6
  clear H_r3 H_fa
  have p0 := row_cell r3 0
  have p1 := row_cell r3 1
  have p2 := row_cell r3 2
  simp at p0 p1 p2
  have q0 := frozen_of_row _ _ 0 _ _ r3
  have q1 := frozen_of_row _ _ 1 _ _ r3
  have q2 := frozen_of_row _ _ 2 _ _ r3
  have H_r3 := Lib.hid r3; clear r3
  have H_fa := Lib.hid fa; clear fa
  have H_f6 := Lib.hid f6; clear f6
  go_wp2_with (fail)
  refine bodyPost_ret (results_cell_tmp_row rfl _ _ (g + 1 + 1) 50 #[.bool false, .int .i8 sz, .int .u64 cz] (0, 0) _ rfl (row_set (row_set (row_set H_r3.out))) Tryz.underlying50 rfl (by kernel_rfl)) rfl ?_
  exact ⟨rfl, Fresh.set3 H_fa.out (by have := H_hg.out; omega)⟩

set_option maxRecDepth 20000 in
set_option maxHeartbeats 4000000 in
theorem SubAbs_err (m1 m2 : Bool) (c1 s1 c2 s2 : Nat) (w : World) 
    (hX : ∀ W, Fresh w W → Calls Tryz.prog 49 #[gd m1 s1 c1, gd m2 s2 c2] W (ClampErr W)) :
    Calls Tryz.prog 52 #[gd m1 s1 c1, gd m2 s2 c2] w (ClampErr w) := by
  obtain ⟨g, hg⟩ : ∃ g, g = w.heap.size := ⟨_, rfl⟩
  have bx := boxes3 w #[.bool m1, .int .i8 s1, .int .u64 c1] #[.bool m2, .int .i8 s2, .int .u64 c2] #[.bool false, .int .i8 0, .int .u64 0] 50 50 50 g hg
  have H_bx := Lib.hid bx; clear bx
  have H_hX := Lib.hid hX; clear hX
  go_enter Tryz.func52, Tryz.ntmps52
  go_wp2_with (fail)
  generalize hw1 : ((w.alloc _).alloc _).alloc _ = w1
  rw [← hg]
  obtain ⟨r1, r2, r3, fa, _⟩ := H_bx.out w1 hw1
  have H_r1 := Lib.hid r1; clear r1
  have H_r2 := Lib.hid r2; clear r2
  have H_r3 := Lib.hid r3; clear r3
  have H_fa := Lib.hid fa; clear fa
  have H_hw1 := Lib.hid hw1; clear hw1
  have H_hg := Lib.hid hg; clear hg
  refine (H_hX.out _ H_fa.out).mono ?_
  rintro e w2 ⟨ae, rfl, f2⟩
  have r1 := row_fresh H_r1.out f2
  have r2 := row_fresh H_r2.out f2
  have r3 := row_fresh H_r3.out f2
  have fa := fresh_trans H_fa.out f2
  obtain ⟨h8, hh8⟩ : ∃ h, h = w2.heap.size := ⟨_, rfl⟩
  clear H_r1 H_r2 H_r3 H_fa
  have hlt3 := row_lt3 r3
  have H_r1 := Lib.hid r1; clear r1
  have H_r2 := Lib.hid r2; clear r2
  have H_r3 := Lib.hid r3; clear r3
  have H_fa := Lib.hid fa; clear fa
  have H_f2 := Lib.hid f2; clear f2
  have H_hh8 := Lib.hid hh8; clear hh8
  have H_hlt3 := Lib.hid hlt3; clear hlt3
  go_wp2_with (fail)
  generalize hw3 : w2.alloc _ = w3
  have f3 : Fresh w2 w3 := by rw [← hw3]; exact (Keep.refl _ _).alloc _
  have r8 : w3.heap[h8]? = some (.cells #[.bool false, .int .i8 0, .int .u64 0] 50 (0, 0)) := by rw [← hw3, H_hh8.out]; exact heap_alloc_new w2 _
  try rw [← H_hh8.out]
  have r3 := row_fresh H_r3.out f3
  have fa := fresh_trans H_fa.out f3
  clear H_r1 H_r2 H_r3 H_fa
  have H_r3 := Lib.hid r3; clear r3
  have H_fa := Lib.hid fa; clear fa
  have H_f3 := Lib.hid f3; clear f3
  have H_r8 := Lib.hid r8; clear r8
  have H_hw3 := Lib.hid hw3; clear hw3
  try go_wp2_with (fail)
  refine (errorsNew_any _ _).mono ?_
  rintro e w6 ⟨ce, rfl, f6⟩
  have r3 := row_fresh H_r3.out f6
  have fa := fresh_trans H_fa.out f6
  clear H_r3 H_fa
  have p0 := row_cell r3 0
  have p1 := row_cell r3 1
  have p2 := row_cell r3 2
  simp at p0 p1 p2
  have q0 := frozen_of_row _ _ 0 _ _ r3
  have q1 := frozen_of_row _ _ 1 _ _ r3
  have q2 := frozen_of_row _ _ 2 _ _ r3
  have H_r3 := Lib.hid r3; clear r3
  have H_fa := Lib.hid fa; clear fa
  have H_f6 := Lib.hid f6; clear f6
  go_wp2_with (fail)
  refine bodyPost_ret (results_cell_tmp_row rfl _ _ (g + 1 + 1) 50 #[.bool false, .int .i8 0, .int .u64 0] (0, 0) _ rfl (row_set (row_set (row_set H_r3.out))) Tryz.underlying50 rfl (by kernel_rfl)) rfl ?_
  exact ⟨ce, rfl, Fresh.set3 H_fa.out (by have := H_hg.out; omega)⟩

end Go.Proofs.YtjdfapoomjeabaaGreatDoor
