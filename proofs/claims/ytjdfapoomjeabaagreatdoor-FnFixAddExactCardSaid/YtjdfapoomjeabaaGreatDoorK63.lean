/- AddExact: places that there may not be. -/
import Derived.Test.YtjdfapoomjeabaaGreatDoorK5
import Derived.Test.YtjdfapoomjeabaaGreatDoorK17
namespace Go.Proofs.YtjdfapoomjeabaaGreatDoor
open Go.RowKit

set_option maxRecDepth 20000 in
set_option maxHeartbeats 4000000 in
theorem AddExact_bad (m1 m2 : Bool) (c1 s1 c2 s2 : Nat) (sc : Int) (w : World) (hsc : sc < 0 ∨ 19 < sc) :
    Calls Tryz.prog 54 #[gd m1 s1 c1, gd m2 s2 c2, .int .i64 sc] w (ClampErr w) := by
  rcases hsc with hsc | hsc
  · have t1 : decide (sc < 0) = true := by simp; omega
    obtain ⟨g, hg⟩ : ∃ g, g = w.heap.size := ⟨_, rfl⟩
    have bx := boxes3 w #[.bool m1, .int .i8 s1, .int .u64 c1] #[.bool m2, .int .i8 s2, .int .u64 c2] #[.bool false, .int .i8 0, .int .u64 0] 50 50 50 g hg
    have H_bx := Lib.hid bx; clear bx
    go_enter Tryz.func54, Tryz.ntmps54
    go_wp2_with (fail)
    generalize hw1 : ((w.alloc _).alloc _).alloc _ = w1
    rw [← hg]
    obtain ⟨r1, r2, r3, fa, _⟩ := H_bx.out w1 hw1
    have H_r1 := Lib.hid r1; clear r1
    have H_r2 := Lib.hid r2; clear r2
    have H_r3 := Lib.hid r3; clear r3
    have H_fa := Lib.hid fa; clear fa
    have H_hw1 := Lib.hid hw1; clear hw1
    have H_hg := Lib.hid hg; clear hg
    refine (errorsNew_any _ _).mono ?_
    rintro e w6 ⟨ce, rfl, f6⟩
    have r3 := row_fresh H_r3.out f6
    have fa := fresh_trans H_fa.out f6
    clear H_r3 H_fa
    have p0 := row_cell r3 0
    have p1 := row_cell r3 1
    have p2 := row_cell r3 2
    simp at p0 p1 p2
    have q0 := frozen_of_row _ _ 0 _ _ r3
    have q1 := frozen_of_row _ _ 1 _ _ r3
    have q2 := frozen_of_row _ _ 2 _ _ r3
    have H_r3 := Lib.hid r3; clear r3
    have H_fa := Lib.hid fa; clear fa
    have H_f6 := Lib.hid f6; clear f6
    go_wp2_with (fail)
    refine bodyPost_ret (results_cell_tmp_row rfl _ _ (g + 1 + 1) 50 #[.bool false, .int .i8 0, .int .u64 0] (0, 0) _ rfl (row_set (row_set (row_set H_r3.out))) Tryz.underlying50 rfl (by kernel_rfl)) rfl ?_
    exact ⟨ce, rfl, Fresh.set3 H_fa.out (by have := H_hg.out; omega)⟩
  · have t0 : ¬ sc < 0 := by omega
    have t1 : decide (sc < 0) = false := by simp; omega
    have t2 : decide (19 < sc) = true := by simp; omega
    obtain ⟨g, hg⟩ : ∃ g, g = w.heap.size := ⟨_, rfl⟩
    have bx := boxes3 w #[.bool m1, .int .i8 s1, .int .u64 c1] #[.bool m2, .int .i8 s2, .int .u64 c2] #[.bool false, .int .i8 0, .int .u64 0] 50 50 50 g hg
    have H_bx := Lib.hid bx; clear bx
    go_enter Tryz.func54, Tryz.ntmps54
    go_wp2_with (fail)
    generalize hw1 : ((w.alloc _).alloc _).alloc _ = w1
    rw [← hg]
    obtain ⟨r1, r2, r3, fa, _⟩ := H_bx.out w1 hw1
    have H_r1 := Lib.hid r1; clear r1
    have H_r2 := Lib.hid r2; clear r2
    have H_r3 := Lib.hid r3; clear r3
    have H_fa := Lib.hid fa; clear fa
    have H_hw1 := Lib.hid hw1; clear hw1
    have H_hg := Lib.hid hg; clear hg
    refine (errorsNew_any _ _).mono ?_
    rintro e w6 ⟨ce, rfl, f6⟩
    have r3 := row_fresh H_r3.out f6
    have fa := fresh_trans H_fa.out f6
    clear H_r3 H_fa
    have p0 := row_cell r3 0
    have p1 := row_cell r3 1
    have p2 := row_cell r3 2
    simp at p0 p1 p2
    have q0 := frozen_of_row _ _ 0 _ _ r3
    have q1 := frozen_of_row _ _ 1 _ _ r3
    have q2 := frozen_of_row _ _ 2 _ _ r3
    have H_r3 := Lib.hid r3; clear r3
    have H_fa := Lib.hid fa; clear fa
    have H_f6 := Lib.hid f6; clear f6
    go_wp2_with (fail)
    refine bodyPost_ret (results_cell_tmp_row rfl _ _ (g + 1 + 1) 50 #[.bool false, .int .i8 0, .int .u64 0] (0, 0) _ rfl (row_set (row_set (row_set H_r3.out))) Tryz.underlying50 rfl (by kernel_rfl)) rfl ?_
    exact ⟨ce, rfl, Fresh.set3 H_fa.out (by have := H_hg.out; omega)⟩

end Go.Proofs.YtjdfapoomjeabaaGreatDoor
