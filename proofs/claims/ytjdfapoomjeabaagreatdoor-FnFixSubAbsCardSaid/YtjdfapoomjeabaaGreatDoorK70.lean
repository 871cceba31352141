/- govalues: Decimal.Sub. -/
import Derived.Test.YtjdfapoomjeabaaGreatDoorK5
import Derived.Test.YtjdfapoomjeabaaGreatDoorK17
namespace Go.Proofs.YtjdfapoomjeabaaGreatDoor
open Go.RowKit

set_option maxRecDepth 20000 in
set_option maxHeartbeats 4000000 in
theorem Sub_ok (m1 m2 nz : Bool) (c1 s1 c2 s2 sz cz : Nat) (w : World) (hs2 : s2 ≤ 19)
    (hX : ∀ W, Fresh w W → Calls Tryz.prog 54 #[gd m1 s1 c1, gd (!m2 && decide (0 < c2)) s2 c2, .int .i64 0] W (VRet W (.tuple #[gd nz sz cz, .nilIface]))) :
    Calls Tryz.prog 49 #[gd m1 s1 c1, gd m2 s2 c2] w (VRet w (.tuple #[gd nz sz cz, .nilIface])) := by
  have hneg := fun W => Neg_any m2 s2 c2 W hs2
  obtain ⟨m3, hm3⟩ : ∃ b, b = (!m2 && decide (0 < c2)) := ⟨_, rfl⟩
  rw [← hm3] at hX hneg
  obtain ⟨g, hg⟩ : ∃ g, g = w.heap.size := ⟨_, rfl⟩
  have bx := boxes3 w #[.bool m1, .int .i8 s1, .int .u64 c1] #[.bool m2, .int .i8 s2, .int .u64 c2] #[.bool false, .int .i8 0, .int .u64 0] 50 50 50 g hg
  have H_bx := Lib.hid bx; clear bx
  have H_hX := Lib.hid hX; clear hX
  have H_hneg := Lib.hid hneg; clear hneg
  have H_hm3 := Lib.hid hm3; clear hm3
  go_enter Tryz.func49, Tryz.ntmps49
  go_wp2_with (fail)
  generalize hw1 : ((w.alloc _).alloc _).alloc _ = w1
  rw [← hg]
  obtain ⟨b1, b2, b3, hf, _⟩ := H_bx.out w1 hw1
  have k0 := row_cell b1 0
  have k1 := row_cell b1 1
  have k2 := row_cell b1 2
  have k3 := row_cell b2 0
  have k4 := row_cell b2 1
  have k5 := row_cell b2 2
  simp at k0 k1 k2 k3 k4 k5
  have H_b1 := Lib.hid b1; clear b1
  have H_b2 := Lib.hid b2; clear b2
  have H_b3 := Lib.hid b3; clear b3
  have H_hf := Lib.hid hf; clear hf
  have H_hw1 := Lib.hid hw1; clear hw1
  have H_hg := Lib.hid hg; clear hg
  go_region_held3 (fun (w' : World) => w'.cell? ⟨g, 0, none⟩ = some (.bool m1) ∧ w'.cell? ⟨g, 1, none⟩ = some (.int .i8 s1) ∧ w'.cell? ⟨g, 2, none⟩ = some (.int .u64 c1) ∧ w'.cell? ⟨g + 1, 0, none⟩ = some (.bool m2) ∧ w'.cell? ⟨g + 1, 1, none⟩ = some (.int .i8 s2) ∧ w'.cell? ⟨g + 1, 2, none⟩ = some (.int .u64 c2)) (first | exact ⟨k0, k1, k2, k3, k4, k5⟩ | exact ⟨m0, m1, m2, m3, m4, m5⟩ | exact ⟨nc0, nc1, nc2, nc3, nc4, nc5⟩ | exact ⟨far3 (by omega) nc0, far3 (by omega) nc1, far3 (by omega) nc2, far3 (by omega) nc3, far3 (by omega) nc4, far3 (by omega) nc5⟩) (first
    | (go_at_call 81; (with_reducible refine (H_hneg.out _).mono ?_); rintro e w3 ⟨rfl, r2⟩; have hf3 : Fresh w1 w3 := (by first | exact r2 | exact r2.of_drew | exact r2.of_drewN); have m0 := cell_fresh k0 hf3; have m1 := cell_fresh k1 hf3; have m2 := cell_fresh k2 hf3; have m3 := cell_fresh k3 hf3; have m4 := cell_fresh k4 hf3; have m5 := cell_fresh k5 hf3; have H_hf3 := Lib.hid hf3; clear r2 hf3)
    | (go_at_call 54; (with_reducible refine (H_hX.out _ (fresh_trans H_hf.out H_hf3.out)).mono ?_); rintro e w6 ⟨rfl, r6⟩; have nc0 := cell_fresh m0 r6; have nc1 := cell_fresh m1 r6; have nc2 := cell_fresh m2 r6; have nc3 := cell_fresh m3 r6; have nc4 := cell_fresh m4 r6; have nc5 := cell_fresh m5 r6; have b4 := row_fresh H_b3.out (fresh_trans H_hf3.out r6); have p0 := row_cell b4 0; have p1 := row_cell b4 1; have p2 := row_cell b4 2; have z0 : w6.frozen? ⟨g + 1 + 1, 0, none⟩ = false := frozen_of_row _ _ _ _ _ b4; have z1 : w6.frozen? ⟨g + 1 + 1, 1, none⟩ = false := frozen_of_row _ _ _ _ _ b4; have z2 : w6.frozen? ⟨g + 1 + 1, 2, none⟩ = false := frozen_of_row _ _ _ _ _ b4; simp at p0 p1 p2; have H_b4 := Lib.hid b4; clear b4; have H_r6 := Lib.hid r6; clear r6))
  go_wp2
  refine bodyPost_ret (results_cell_tmp_row rfl _ _ (g + 1 + 1) 50 #[.bool nz, .int .i8 sz, .int .u64 cz] (0, 0) _ rfl (row_set (row_set (row_set H_b4.out))) Tryz.underlying50 rfl (by kernel_rfl)) rfl ?_
  exact ⟨rfl, (fresh_trans H_hf.out (fresh_trans H_hf3.out H_r6.out)).set3 (by have := H_hg.out; omega)⟩

set_option maxRecDepth 20000 in
set_option maxHeartbeats 4000000 in
theorem Sub_err (m1 m2 : Bool) (c1 s1 c2 s2 : Nat) (w : World) (hs2 : s2 ≤ 19)
    (hX : ∀ W, Fresh w W → Calls Tryz.prog 54 #[gd m1 s1 c1, gd (!m2 && decide (0 < c2)) s2 c2, .int .i64 0] W (ClampErr W)) :
    Calls Tryz.prog 49 #[gd m1 s1 c1, gd m2 s2 c2] w (ClampErr w) := by
  have hneg := fun W => Neg_any m2 s2 c2 W hs2
  obtain ⟨m3, hm3⟩ : ∃ b, b = (!m2 && decide (0 < c2)) := ⟨_, rfl⟩
  rw [← hm3] at hX hneg
  obtain ⟨g, hg⟩ : ∃ g, g = w.heap.size := ⟨_, rfl⟩
  have bx := boxes3 w #[.bool m1, .int .i8 s1, .int .u64 c1] #[.bool m2, .int .i8 s2, .int .u64 c2] #[.bool false, .int .i8 0, .int .u64 0] 50 50 50 g hg
  have H_bx := Lib.hid bx; clear bx
  have H_hX := Lib.hid hX; clear hX
  have H_hneg := Lib.hid hneg; clear hneg
  have H_hm3 := Lib.hid hm3; clear hm3
  go_enter Tryz.func49, Tryz.ntmps49
  go_wp2_with (fail)
  generalize hw1 : ((w.alloc _).alloc _).alloc _ = w1
  rw [← hg]
  obtain ⟨b1, b2, b3, hf, _⟩ := H_bx.out w1 hw1
  have k0 := row_cell b1 0
  have k1 := row_cell b1 1
  have k2 := row_cell b1 2
  have k3 := row_cell b2 0
  have k4 := row_cell b2 1
  have k5 := row_cell b2 2
  simp at k0 k1 k2 k3 k4 k5
  have H_b1 := Lib.hid b1; clear b1
  have H_b2 := Lib.hid b2; clear b2
  have H_b3 := Lib.hid b3; clear b3
  have H_hf := Lib.hid hf; clear hf
  have H_hw1 := Lib.hid hw1; clear hw1
  have H_hg := Lib.hid hg; clear hg
  go_region_held3 (fun (w' : World) => w'.cell? ⟨g, 0, none⟩ = some (.bool m1) ∧ w'.cell? ⟨g, 1, none⟩ = some (.int .i8 s1) ∧ w'.cell? ⟨g, 2, none⟩ = some (.int .u64 c1) ∧ w'.cell? ⟨g + 1, 0, none⟩ = some (.bool m2) ∧ w'.cell? ⟨g + 1, 1, none⟩ = some (.int .i8 s2) ∧ w'.cell? ⟨g + 1, 2, none⟩ = some (.int .u64 c2)) (first | exact ⟨k0, k1, k2, k3, k4, k5⟩ | exact ⟨m0, m1, m2, m3, m4, m5⟩ | exact ⟨nc0, nc1, nc2, nc3, nc4, nc5⟩ | exact ⟨far3 (by omega) nc0, far3 (by omega) nc1, far3 (by omega) nc2, far3 (by omega) nc3, far3 (by omega) nc4, far3 (by omega) nc5⟩) (first
    | (go_at_call 81; (with_reducible refine (H_hneg.out _).mono ?_); rintro e w3 ⟨rfl, r2⟩; have hf3 : Fresh w1 w3 := (by first | exact r2 | exact r2.of_drew | exact r2.of_drewN); have m0 := cell_fresh k0 hf3; have m1 := cell_fresh k1 hf3; have m2 := cell_fresh k2 hf3; have m3 := cell_fresh k3 hf3; have m4 := cell_fresh k4 hf3; have m5 := cell_fresh k5 hf3; have H_hf3 := Lib.hid hf3; clear r2 hf3)
    | (go_at_call 54; (with_reducible refine (H_hX.out _ (fresh_trans H_hf.out H_hf3.out)).mono ?_); rintro e w6 ⟨ae, rfl, r6⟩; have nc0 := cell_fresh m0 r6; have nc1 := cell_fresh m1 r6; have nc2 := cell_fresh m2 r6; have nc3 := cell_fresh m3 r6; have nc4 := cell_fresh m4 r6; have nc5 := cell_fresh m5 r6; have b4 := row_fresh H_b3.out (fresh_trans H_hf3.out r6); have p0 := row_cell b4 0; have p1 := row_cell b4 1; have p2 := row_cell b4 2; have z0 : w6.frozen? ⟨g + 1 + 1, 0, none⟩ = false := frozen_of_row _ _ _ _ _ b4; have z1 : w6.frozen? ⟨g + 1 + 1, 1, none⟩ = false := frozen_of_row _ _ _ _ _ b4; have z2 : w6.frozen? ⟨g + 1 + 1, 2, none⟩ = false := frozen_of_row _ _ _ _ _ b4; simp at p0 p1 p2; have H_b4 := Lib.hid b4; clear b4; have H_r6 := Lib.hid r6; clear r6))
  go_wp2
  refine bodyPost_ret (results_cell_tmp_row rfl _ _ (g + 1 + 1) 50 #[.bool false, .int .i8 0, .int .u64 0] (0, 0) _ rfl (row_set (row_set (row_set H_b4.out))) Tryz.underlying50 rfl (by kernel_rfl)) rfl ?_
  exact ⟨ae, rfl, (fresh_trans H_hf.out (fresh_trans H_hf3.out H_r6.out)).set3 (by have := H_hg.out; omega)⟩

end Go.Proofs.YtjdfapoomjeabaaGreatDoor
