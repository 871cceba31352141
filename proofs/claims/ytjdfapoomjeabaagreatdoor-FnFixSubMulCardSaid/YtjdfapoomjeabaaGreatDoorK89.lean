/- Sums with a product: AddMulExact, AddMul. -/
import Derived.Test.YtjdfapoomjeabaaGreatDoorKX
import Derived.Test.YtjdfapoomjeabaaGreatDoorK4
import Derived.Test.YtjdfapoomjeabaaGreatDoorK5
import Derived.Test.YtjdfapoomjeabaaGreatDoorK55
namespace Go.Proofs.YtjdfapoomjeabaaGreatDoor
open Go.RowKit

set_option maxRecDepth 20000 in
set_option maxHeartbeats 4000000 in
theorem AddMulExact_ok1 (m1 m2 m3 nz : Bool) (c1 s1 c2 s2 c3 s3 sz cz : Nat) (ms : Nat) (hms : ms ≤ 19) (w : World)
    (hF : ∀ W, Fresh w W → Calls Tryz.prog 109 #[gd m1 s1 c1, gd m2 s2 c2, gd m3 s3 c3, .int .i64 ms] W (VRet W (.tuple #[gd nz sz cz, .nilIface]))) :
    Calls Tryz.prog 87 #[gd m1 s1 c1, gd m2 s2 c2, gd m3 s3 c3, .int .i64 ms] w (VRet w (.tuple #[gd nz sz cz, .nilIface])) := by
  have t1 : decide ((ms : Int) < 0) = false := by simp
  have t2 : decide (19 < (ms : Int)) = false := by simp; omega
  obtain ⟨g, hg⟩ : ∃ g, g = w.heap.size := ⟨_, rfl⟩
  have bx := boxes4 w #[.bool m1, .int .i8 s1, .int .u64 c1] #[.bool m2, .int .i8 s2, .int .u64 c2] #[.bool m3, .int .i8 s3, .int .u64 c3] #[.bool false, .int .i8 0, .int .u64 0] 50 50 50 50 g hg
  have H_bx := Lib.hid bx; clear bx
  have H_hF := Lib.hid hF; clear hF
  go_enter Tryz.func87, Tryz.ntmps87
  go_wp2_with (fail)
  generalize hw1 : (((w.alloc _).alloc _).alloc _).alloc _ = w1
  rw [← hg]
  obtain ⟨r1, r2, rx, r3, fa⟩ := H_bx.out w1 hw1
  have H_r1 := Lib.hid r1; clear r1
  have H_r2 := Lib.hid r2; clear r2
  have H_rx := Lib.hid rx; clear rx
  have H_r3 := Lib.hid r3; clear r3
  have H_fa := Lib.hid fa; clear fa
  have H_hw1 := Lib.hid hw1; clear hw1
  have H_hg := Lib.hid hg; clear hg
  refine (H_hF.out _ H_fa.out).mono ?_
  rintro e w2 ⟨rfl, f2⟩
  have f3 := fresh_trans f2 ((Keep.refl (fun _ => False) w2).alloc (.cells #[.bool nz, .int .i8 sz, .int .u64 cz] 50))
  have b4 := row_fresh H_r3.out f3
  have p0 := row_cell b4 0
  have p1 := row_cell b4 1
  have p2 := row_cell b4 2
  simp at p0 p1 p2
  have q0 := frozen_of_row _ _ 0 _ _ b4
  have q1 := frozen_of_row _ _ 1 _ _ b4
  have q2 := frozen_of_row _ _ 2 _ _ b4
  have H_f2 := Lib.hid f2; clear f2
  have H_f3 := Lib.hid f3; clear f3
  have H_b4 := Lib.hid b4; clear b4
  go_wp2_with (fail)
  refine bodyPost_ret (results_cell_tmp_row rfl _ _ (g + 1 + 1 + 1) 50 #[.bool nz, .int .i8 sz, .int .u64 cz] (0, 0) _ rfl (row_set (row_set (row_set H_b4.out))) Tryz.underlying50 rfl (by kernel_rfl)) rfl ?_
  exact ⟨rfl, Fresh.set3 (fresh_trans H_fa.out H_f3.out) (by have := H_hg.out; omega)⟩

set_option maxRecDepth 20000 in
set_option maxHeartbeats 4000000 in
theorem AddMulExact_ok2 (m1 m2 m3 nz : Bool) (c1 s1 c2 s2 c3 s3 sz cz : Nat) (ms : Nat) (hms : ms ≤ 19) (w : World)
    (hF : ∀ W, Fresh w W → Calls Tryz.prog 109 #[gd m1 s1 c1, gd m2 s2 c2, gd m3 s3 c3, .int .i64 ms] W (ClampErr W))
    (hB : ∀ W, Fresh w W → Calls Tryz.prog 110 #[gd m1 s1 c1, gd m2 s2 c2, gd m3 s3 c3, .int .i64 ms] W (VRet W (.tuple #[gd nz sz cz, .nilIface]))) :
    Calls Tryz.prog 87 #[gd m1 s1 c1, gd m2 s2 c2, gd m3 s3 c3, .int .i64 ms] w (VRet w (.tuple #[gd nz sz cz, .nilIface])) := by
  have t1 : decide ((ms : Int) < 0) = false := by simp
  have t2 : decide (19 < (ms : Int)) = false := by simp; omega
  obtain ⟨g, hg⟩ : ∃ g, g = w.heap.size := ⟨_, rfl⟩
  have bx := boxes4 w #[.bool m1, .int .i8 s1, .int .u64 c1] #[.bool m2, .int .i8 s2, .int .u64 c2] #[.bool m3, .int .i8 s3, .int .u64 c3] #[.bool false, .int .i8 0, .int .u64 0] 50 50 50 50 g hg
  have H_bx := Lib.hid bx; clear bx
  have H_hF := Lib.hid hF; clear hF
  have H_hB := Lib.hid hB; clear hB
  go_enter Tryz.func87, Tryz.ntmps87
  go_wp2_with (fail)
  generalize hw1 : (((w.alloc _).alloc _).alloc _).alloc _ = w1
  rw [← hg]
  obtain ⟨r1, r2, rx, r3, fa⟩ := H_bx.out w1 hw1
  have H_r1 := Lib.hid r1; clear r1
  have H_r2 := Lib.hid r2; clear r2
  have H_rx := Lib.hid rx; clear rx
  have H_r3 := Lib.hid r3; clear r3
  have H_fa := Lib.hid fa; clear fa
  have H_hw1 := Lib.hid hw1; clear hw1
  have H_hg := Lib.hid hg; clear hg
  refine (H_hF.out _ H_fa.out).mono ?_
  rintro e w2 ⟨ae, rfl, f2⟩
  have r1 := row_fresh H_r1.out f2
  have r2 := row_fresh H_r2.out f2
  have rx := row_fresh H_rx.out f2
  have r3 := row_fresh H_r3.out f2
  have fa := fresh_trans H_fa.out f2
  obtain ⟨h8, hh8⟩ : ∃ h, h = w2.heap.size := ⟨_, rfl⟩
  have a0 := fun o => row_cell (row_fresh r1 ((Keep.refl (fun _ => False) w2).alloc o)) 0
  have a1 := fun o => row_cell (row_fresh r1 ((Keep.refl (fun _ => False) w2).alloc o)) 1
  have a2 := fun o => row_cell (row_fresh r1 ((Keep.refl (fun _ => False) w2).alloc o)) 2
  have b0 := fun o => row_cell (row_fresh r2 ((Keep.refl (fun _ => False) w2).alloc o)) 0
  have b1 := fun o => row_cell (row_fresh r2 ((Keep.refl (fun _ => False) w2).alloc o)) 1
  have b2 := fun o => row_cell (row_fresh r2 ((Keep.refl (fun _ => False) w2).alloc o)) 2
  have d0 := fun o => row_cell (row_fresh rx ((Keep.refl (fun _ => False) w2).alloc o)) 0
  have d1 := fun o => row_cell (row_fresh rx ((Keep.refl (fun _ => False) w2).alloc o)) 1
  have d2 := fun o => row_cell (row_fresh rx ((Keep.refl (fun _ => False) w2).alloc o)) 2
  simp at a0 a1 a2 b0 b1 b2 d0 d1 d2
  clear H_r1 H_r2 H_rx H_r3 H_fa
  have hlt3 := row_lt3 r3
  have H_r1 := Lib.hid r1; clear r1
  have H_r2 := Lib.hid r2; clear r2
  have H_rx := Lib.hid rx; clear rx
  have H_r3 := Lib.hid r3; clear r3
  have H_fa := Lib.hid fa; clear fa
  have H_f2 := Lib.hid f2; clear f2
  have H_hh8 := Lib.hid hh8; clear hh8
  have H_hlt3 := Lib.hid hlt3; clear hlt3
  go_wp2_with (fail)
  generalize hw3 : w2.alloc _ = w3
  have f3 : Fresh w2 w3 := by rw [← hw3]; exact (Keep.refl _ _).alloc _
  have r8 : w3.heap[h8]? = some (.cells #[.bool false, .int .i8 0, .int .u64 0] 50 (0, 0)) := by rw [← hw3, H_hh8.out]; exact heap_alloc_new w2 _
  rw [← H_hh8.out]
  clear a0 a1 a2 b0 b1 b2 d0 d1 d2
  have r3 := row_fresh H_r3.out f3
  have fa := fresh_trans H_fa.out f3
  clear H_r1 H_r2 H_rx H_r3 H_fa
  have hn1 : ¬ h8 = g + 1 + 1 + 1 := by have := H_hh8.out; have := H_hlt3.out; omega
  have hn2 : ¬ g + 1 + 1 + 1 = h8 := fun e => hn1 e.symm
  have hge : w.heap.size ≤ h8 := by have := H_hh8.out; have := H_hlt3.out; have := H_hg.out; omega
  have H_r3 := Lib.hid r3; clear r3
  have H_fa := Lib.hid fa; clear fa
  have H_r8 := Lib.hid r8; clear r8
  have H_f3 := Lib.hid f3; clear f3
  have H_hw3 := Lib.hid hw3; clear hw3
  have H_hge := Lib.hid hge; clear hge
  refine (H_hB.out _ H_fa.out).mono ?_
  rintro e w4 ⟨rfl, f4⟩
  have r3 := row_fresh H_r3.out f4
  have r8 := row_fresh H_r8.out f4
  have fa := fresh_trans H_fa.out f4
  clear H_r3 H_r8 H_fa
  have x0 := row_cell r8 0
  have x1 := row_cell r8 1
  have x2 := row_cell r8 2
  simp at x0 x1 x2
  have y0 := frozen_of_row _ _ 0 _ _ r8
  have y1 := frozen_of_row _ _ 1 _ _ r8
  have y2 := frozen_of_row _ _ 2 _ _ r8
  have p0 := row_cell r3 0
  have p1 := row_cell r3 1
  have p2 := row_cell r3 2
  simp at p0 p1 p2
  have q0 := frozen_of_row _ _ 0 _ _ r3
  have q1 := frozen_of_row _ _ 1 _ _ r3
  have q2 := frozen_of_row _ _ 2 _ _ r3
  have r3x : ((((w4.setCell ⟨h8, 0, none⟩ (.bool nz)).setCell ⟨h8, 1, none⟩ (.int .i8 sz)).setCell ⟨h8, 2, none⟩ (.int .u64 cz))).heap[g + 1 + 1 + 1]? = some (.cells #[.bool false, .int .i8 0, .int .u64 0] 50 (0, 0)) := by
    rw [row_far hn1, row_far hn1, row_far hn1]; exact r3
  have H_r3 := Lib.hid r3; clear r3
  have H_r8 := Lib.hid r8; clear r8
  have H_fa := Lib.hid fa; clear fa
  have H_f4 := Lib.hid f4; clear f4
  have H_r3x := Lib.hid r3x; clear r3x
  go_wp2_with (fail)
  refine bodyPost_ret (results_cell_tmp_row rfl _ _ (g + 1 + 1 + 1) 50 #[.bool nz, .int .i8 sz, .int .u64 cz] (0, 0) _ rfl (row_set (row_set (row_set H_r3x.out))) Tryz.underlying50 rfl (by kernel_rfl)) rfl ?_
  exact ⟨rfl, Fresh.set3 (Fresh.set3 H_fa.out H_hge.out) (by have := H_hg.out; omega)⟩

set_option maxRecDepth 20000 in
set_option maxHeartbeats 4000000 in
theorem AddMulExact_no (m1 m2 m3 : Bool) (c1 s1 c2 s2 c3 s3 : Nat) (ms : Nat) (hms : ms ≤ 19) (w : World)
    (hF : ∀ W, Fresh w W → Calls Tryz.prog 109 #[gd m1 s1 c1, gd m2 s2 c2, gd m3 s3 c3, .int .i64 ms] W (ClampErr W))
    (hB : ∀ W, Fresh w W → Calls Tryz.prog 110 #[gd m1 s1 c1, gd m2 s2 c2, gd m3 s3 c3, .int .i64 ms] W (ClampErr W)) :
    Calls Tryz.prog 87 #[gd m1 s1 c1, gd m2 s2 c2, gd m3 s3 c3, .int .i64 ms] w (ClampErr w) := by
  have t1 : decide ((ms : Int) < 0) = false := by simp
  have t2 : decide (19 < (ms : Int)) = false := by simp; omega
  obtain ⟨g, hg⟩ : ∃ g, g = w.heap.size := ⟨_, rfl⟩
  have bx := boxes4 w #[.bool m1, .int .i8 s1, .int .u64 c1] #[.bool m2, .int .i8 s2, .int .u64 c2] #[.bool m3, .int .i8 s3, .int .u64 c3] #[.bool false, .int .i8 0, .int .u64 0] 50 50 50 50 g hg
  have H_bx := Lib.hid bx; clear bx
  have H_hF := Lib.hid hF; clear hF
  have H_hB := Lib.hid hB; clear hB
  go_enter Tryz.func87, Tryz.ntmps87
  go_wp2_with (fail)
  generalize hw1 : (((w.alloc _).alloc _).alloc _).alloc _ = w1
  rw [← hg]
  obtain ⟨r1, r2, rx, r3, fa⟩ := H_bx.out w1 hw1
  have H_r1 := Lib.hid r1; clear r1
  have H_r2 := Lib.hid r2; clear r2
  have H_rx := Lib.hid rx; clear rx
  have H_r3 := Lib.hid r3; clear r3
  have H_fa := Lib.hid fa; clear fa
  have H_hw1 := Lib.hid hw1; clear hw1
  have H_hg := Lib.hid hg; clear hg
  refine (H_hF.out _ H_fa.out).mono ?_
  rintro e w2 ⟨ae, rfl, f2⟩
  have r1 := row_fresh H_r1.out f2
  have r2 := row_fresh H_r2.out f2
  have rx := row_fresh H_rx.out f2
  have r3 := row_fresh H_r3.out f2
  have fa := fresh_trans H_fa.out f2
  obtain ⟨h8, hh8⟩ : ∃ h, h = w2.heap.size := ⟨_, rfl⟩
  have a0 := fun o => row_cell (row_fresh r1 ((Keep.refl (fun _ => False) w2).alloc o)) 0
  have a1 := fun o => row_cell (row_fresh r1 ((Keep.refl (fun _ => False) w2).alloc o)) 1
  have a2 := fun o => row_cell (row_fresh r1 ((Keep.refl (fun _ => False) w2).alloc o)) 2
  have b0 := fun o => row_cell (row_fresh r2 ((Keep.refl (fun _ => False) w2).alloc o)) 0
  have b1 := fun o => row_cell (row_fresh r2 ((Keep.refl (fun _ => False) w2).alloc o)) 1
  have b2 := fun o => row_cell (row_fresh r2 ((Keep.refl (fun _ => False) w2).alloc o)) 2
  have d0 := fun o => row_cell (row_fresh rx ((Keep.refl (fun _ => False) w2).alloc o)) 0
  have d1 := fun o => row_cell (row_fresh rx ((Keep.refl (fun _ => False) w2).alloc o)) 1
  have d2 := fun o => row_cell (row_fresh rx ((Keep.refl (fun _ => False) w2).alloc o)) 2
  simp at a0 a1 a2 b0 b1 b2 d0 d1 d2
  clear H_r1 H_r2 H_rx H_r3 H_fa
  have hlt3 := row_lt3 r3
  have H_r1 := Lib.hid r1; clear r1
  have H_r2 := Lib.hid r2; clear r2
  have H_rx := Lib.hid rx; clear rx
  have H_r3 := Lib.hid r3; clear r3
  have H_fa := Lib.hid fa; clear fa
  have H_f2 := Lib.hid f2; clear f2
  have H_hh8 := Lib.hid hh8; clear hh8
  have H_hlt3 := Lib.hid hlt3; clear hlt3
  go_wp2_with (fail)
  generalize hw3 : w2.alloc _ = w3
  have f3 : Fresh w2 w3 := by rw [← hw3]; exact (Keep.refl _ _).alloc _
  have r8 : w3.heap[h8]? = some (.cells #[.bool false, .int .i8 0, .int .u64 0] 50 (0, 0)) := by rw [← hw3, H_hh8.out]; exact heap_alloc_new w2 _
  rw [← H_hh8.out]
  clear a0 a1 a2 b0 b1 b2 d0 d1 d2
  have r3 := row_fresh H_r3.out f3
  have fa := fresh_trans H_fa.out f3
  clear H_r1 H_r2 H_rx H_r3 H_fa
  have hn1 : ¬ h8 = g + 1 + 1 + 1 := by have := H_hh8.out; have := H_hlt3.out; omega
  have hn2 : ¬ g + 1 + 1 + 1 = h8 := fun e => hn1 e.symm
  have hge : w.heap.size ≤ h8 := by have := H_hh8.out; have := H_hlt3.out; have := H_hg.out; omega
  have H_r3 := Lib.hid r3; clear r3
  have H_fa := Lib.hid fa; clear fa
  have H_r8 := Lib.hid r8; clear r8
  have H_f3 := Lib.hid f3; clear f3
  have H_hw3 := Lib.hid hw3; clear hw3
  have H_hge := Lib.hid hge; clear hge
  refine (H_hB.out _ H_fa.out).mono ?_
  rintro e w4 ⟨be, rfl, f4⟩
  have r3 := row_fresh H_r3.out f4
  have r8 := row_fresh H_r8.out f4
  have fa := fresh_trans H_fa.out f4
  clear H_r3 H_r8 H_fa
  have x0 := row_cell r8 0
  have x1 := row_cell r8 1
  have x2 := row_cell r8 2
  simp at x0 x1 x2
  have y0 := frozen_of_row _ _ 0 _ _ r8
  have y1 := frozen_of_row _ _ 1 _ _ r8
  have y2 := frozen_of_row _ _ 2 _ _ r8
  have H_r3 := Lib.hid r3; clear r3
  have H_r8 := Lib.hid r8; clear r8
  have H_fa := Lib.hid fa; clear fa
  have H_f4 := Lib.hid f4; clear f4
  go_wp2_with (fail)
  generalize hw5 : ((w4.setCell _ _).setCell _ _).setCell _ _ = w5
  have r3 : w5.heap[g + 1 + 1 + 1]? = some (.cells #[.bool false, .int .i8 0, .int .u64 0] 50 (0, 0)) := by rw [← hw5, row_far hn1, row_far hn1, row_far hn1]; exact H_r3.out
  have fa : Fresh w w5 := by rw [← hw5]; exact Fresh.set3 H_fa.out H_hge.out
  clear H_r3 H_r8 H_fa x0 x1 x2 y0 y1 y2
  have H_r3 := Lib.hid r3; clear r3
  have H_fa := Lib.hid fa; clear fa
  have H_hw5 := Lib.hid hw5; clear hw5
  refine (errorsNew_any _ _).mono ?_
  rintro e w6 ⟨ce, rfl, f6⟩
  have r3 := row_fresh H_r3.out f6
  have fa := fresh_trans H_fa.out f6
  clear H_r3 H_fa
  have p0 := row_cell r3 0
  have p1 := row_cell r3 1
  have p2 := row_cell r3 2
  simp at p0 p1 p2
  have q0 := frozen_of_row _ _ 0 _ _ r3
  have q1 := frozen_of_row _ _ 1 _ _ r3
  have q2 := frozen_of_row _ _ 2 _ _ r3
  have H_r3 := Lib.hid r3; clear r3
  have H_fa := Lib.hid fa; clear fa
  have H_f6 := Lib.hid f6; clear f6
  go_wp2_with (fail)
  refine bodyPost_ret (results_cell_tmp_row rfl _ _ (g + 1 + 1 + 1) 50 #[.bool false, .int .i8 0, .int .u64 0] (0, 0) _ rfl (row_set (row_set (row_set H_r3.out))) Tryz.underlying50 rfl (by kernel_rfl)) rfl ?_
  exact ⟨ce, rfl, Fresh.set3 H_fa.out (by have := H_hg.out; omega)⟩

end Go.Proofs.YtjdfapoomjeabaaGreatDoor

/- Differences with a product: SubMul. -/
namespace Go.Proofs.YtjdfapoomjeabaaGreatDoor
open Go.RowKit

set_option maxRecDepth 20000 in
set_option maxHeartbeats 4000000 in
theorem SubMul_ok (m1 m2 m3 nz : Bool) (c1 s1 c2 s2 c3 s3 sz cz : Nat) (w : World) (hs2 : s2 ≤ 19)
    (hX : ∀ W, Fresh w W → Calls Tryz.prog 87 #[gd m1 s1 c1, gd (!m2 && decide (0 < c2)) s2 c2, gd m3 s3 c3, .int .i64 0] W (VRet W (.tuple #[gd nz sz cz, .nilIface]))) :
    Calls Tryz.prog 59 #[gd m1 s1 c1, gd m2 s2 c2, gd m3 s3 c3] w (VRet w (.tuple #[gd nz sz cz, .nilIface])) := by
  have hneg := fun W => Neg_any m2 s2 c2 W hs2
  obtain ⟨mq, hmq⟩ : ∃ b, b = (!m2 && decide (0 < c2)) := ⟨_, rfl⟩
  rw [← hmq] at hX hneg
  obtain ⟨g, hg⟩ : ∃ g, g = w.heap.size := ⟨_, rfl⟩
  have bx := boxes4 w #[.bool m1, .int .i8 s1, .int .u64 c1] #[.bool m2, .int .i8 s2, .int .u64 c2] #[.bool m3, .int .i8 s3, .int .u64 c3] #[.bool false, .int .i8 0, .int .u64 0] 50 50 50 50 g hg
  have H_bx := Lib.hid bx; clear bx
  have H_hX := Lib.hid hX; clear hX
  have H_hneg := Lib.hid hneg; clear hneg
  have H_hmq := Lib.hid hmq; clear hmq
  go_enter Tryz.func59, Tryz.ntmps59
  go_wp2_with (fail)
  generalize hw1 : (((w.alloc _).alloc _).alloc _).alloc _ = w1
  rw [← hg]
  obtain ⟨b1, b2, b3, b4, hf⟩ := H_bx.out w1 hw1
  have k0 := row_cell b1 0
  have k1 := row_cell b1 1
  have k2 := row_cell b1 2
  have k3 := row_cell b2 0
  have k4 := row_cell b2 1
  have k5 := row_cell b2 2
  have k6 := row_cell b3 0
  have k7 := row_cell b3 1
  have k8 := row_cell b3 2
  simp at k0 k1 k2 k3 k4 k5 k6 k7 k8
  have H_b1 := Lib.hid b1; clear b1
  have H_b2 := Lib.hid b2; clear b2
  have H_b3 := Lib.hid b3; clear b3
  have H_b4 := Lib.hid b4; clear b4
  have H_hf := Lib.hid hf; clear hf
  have H_hw1 := Lib.hid hw1; clear hw1
  have H_hg := Lib.hid hg; clear hg
  go_region_held3 (fun (w' : World) => w'.cell? ⟨g, 0, none⟩ = some (.bool m1) ∧ w'.cell? ⟨g, 1, none⟩ = some (.int .i8 s1) ∧ w'.cell? ⟨g, 2, none⟩ = some (.int .u64 c1) ∧ w'.cell? ⟨g + 1, 0, none⟩ = some (.bool m2) ∧ w'.cell? ⟨g + 1, 1, none⟩ = some (.int .i8 s2) ∧ w'.cell? ⟨g + 1, 2, none⟩ = some (.int .u64 c2) ∧ w'.cell? ⟨g + 1 + 1, 0, none⟩ = some (.bool m3) ∧ w'.cell? ⟨g + 1 + 1, 1, none⟩ = some (.int .i8 s3) ∧ w'.cell? ⟨g + 1 + 1, 2, none⟩ = some (.int .u64 c3)) (first | exact ⟨k0, k1, k2, k3, k4, k5, k6, k7, k8⟩ | exact ⟨y0, y1, y2, y3, y4, y5, y6, y7, y8⟩ | exact ⟨nc0, nc1, nc2, nc3, nc4, nc5, nc6, nc7, nc8⟩ | exact ⟨far3 (by omega) nc0, far3 (by omega) nc1, far3 (by omega) nc2, far3 (by omega) nc3, far3 (by omega) nc4, far3 (by omega) nc5, far3 (by omega) nc6, far3 (by omega) nc7, far3 (by omega) nc8⟩) (first
    | (go_at_call 81; (with_reducible refine (H_hneg.out _).mono ?_); rintro e w3 ⟨rfl, r2⟩; have hf3 : Fresh w1 w3 := (by first | exact r2 | exact r2.of_drew | exact r2.of_drewN); have y0 := cell_fresh k0 hf3; have y1 := cell_fresh k1 hf3; have y2 := cell_fresh k2 hf3; have y3 := cell_fresh k3 hf3; have y4 := cell_fresh k4 hf3; have y5 := cell_fresh k5 hf3; have y6 := cell_fresh k6 hf3; have y7 := cell_fresh k7 hf3; have y8 := cell_fresh k8 hf3; have H_hf3 := Lib.hid hf3; clear r2 hf3)
    | (go_at_call 87; (with_reducible refine (H_hX.out _ (fresh_trans H_hf.out H_hf3.out)).mono ?_); rintro e w6 ⟨rfl, r6⟩; have nc0 := cell_fresh y0 r6; have nc1 := cell_fresh y1 r6; have nc2 := cell_fresh y2 r6; have nc3 := cell_fresh y3 r6; have nc4 := cell_fresh y4 r6; have nc5 := cell_fresh y5 r6; have nc6 := cell_fresh y6 r6; have nc7 := cell_fresh y7 r6; have nc8 := cell_fresh y8 r6; have b5 := row_fresh H_b4.out (fresh_trans H_hf3.out r6); have p0 := row_cell b5 0; have p1 := row_cell b5 1; have p2 := row_cell b5 2; have z0 : w6.frozen? ⟨g + 1 + 1 + 1, 0, none⟩ = false := frozen_of_row _ _ _ _ _ b5; have z1 : w6.frozen? ⟨g + 1 + 1 + 1, 1, none⟩ = false := frozen_of_row _ _ _ _ _ b5; have z2 : w6.frozen? ⟨g + 1 + 1 + 1, 2, none⟩ = false := frozen_of_row _ _ _ _ _ b5; simp at p0 p1 p2; have H_b5 := Lib.hid b5; clear b5; have H_r6 := Lib.hid r6; clear r6))
  go_wp2
  refine bodyPost_ret (results_cell_tmp_row rfl _ _ (g + 1 + 1 + 1) 50 #[.bool nz, .int .i8 sz, .int .u64 cz] (0, 0) _ rfl (row_set (row_set (row_set H_b5.out))) Tryz.underlying50 rfl (by kernel_rfl)) rfl ?_
  exact ⟨rfl, (fresh_trans H_hf.out (fresh_trans H_hf3.out H_r6.out)).set3 (by have := H_hg.out; omega)⟩

set_option maxRecDepth 20000 in
set_option maxHeartbeats 4000000 in
theorem SubMul_err (m1 m2 m3 : Bool) (c1 s1 c2 s2 c3 s3 : Nat) (w : World) (hs2 : s2 ≤ 19)
    (hX : ∀ W, Fresh w W → Calls Tryz.prog 87 #[gd m1 s1 c1, gd (!m2 && decide (0 < c2)) s2 c2, gd m3 s3 c3, .int .i64 0] W (ClampErr W)) :
    Calls Tryz.prog 59 #[gd m1 s1 c1, gd m2 s2 c2, gd m3 s3 c3] w (ClampErr w) := by
  have hneg := fun W => Neg_any m2 s2 c2 W hs2
  obtain ⟨mq, hmq⟩ : ∃ b, b = (!m2 && decide (0 < c2)) := ⟨_, rfl⟩
  rw [← hmq] at hX hneg
  obtain ⟨g, hg⟩ : ∃ g, g = w.heap.size := ⟨_, rfl⟩
  have bx := boxes4 w #[.bool m1, .int .i8 s1, .int .u64 c1] #[.bool m2, .int .i8 s2, .int .u64 c2] #[.bool m3, .int .i8 s3, .int .u64 c3] #[.bool false, .int .i8 0, .int .u64 0] 50 50 50 50 g hg
  have H_bx := Lib.hid bx; clear bx
  have H_hX := Lib.hid hX; clear hX
  have H_hneg := Lib.hid hneg; clear hneg
  have H_hmq := Lib.hid hmq; clear hmq
  go_enter Tryz.func59, Tryz.ntmps59
  go_wp2_with (fail)
  generalize hw1 : (((w.alloc _).alloc _).alloc _).alloc _ = w1
  rw [← hg]
  obtain ⟨b1, b2, b3, b4, hf⟩ := H_bx.out w1 hw1
  have k0 := row_cell b1 0
  have k1 := row_cell b1 1
  have k2 := row_cell b1 2
  have k3 := row_cell b2 0
  have k4 := row_cell b2 1
  have k5 := row_cell b2 2
  have k6 := row_cell b3 0
  have k7 := row_cell b3 1
  have k8 := row_cell b3 2
  simp at k0 k1 k2 k3 k4 k5 k6 k7 k8
  have H_b1 := Lib.hid b1; clear b1
  have H_b2 := Lib.hid b2; clear b2
  have H_b3 := Lib.hid b3; clear b3
  have H_b4 := Lib.hid b4; clear b4
  have H_hf := Lib.hid hf; clear hf
  have H_hw1 := Lib.hid hw1; clear hw1
  have H_hg := Lib.hid hg; clear hg
  go_region_held3 (fun (w' : World) => w'.cell? ⟨g, 0, none⟩ = some (.bool m1) ∧ w'.cell? ⟨g, 1, none⟩ = some (.int .i8 s1) ∧ w'.cell? ⟨g, 2, none⟩ = some (.int .u64 c1) ∧ w'.cell? ⟨g + 1, 0, none⟩ = some (.bool m2) ∧ w'.cell? ⟨g + 1, 1, none⟩ = some (.int .i8 s2) ∧ w'.cell? ⟨g + 1, 2, none⟩ = some (.int .u64 c2) ∧ w'.cell? ⟨g + 1 + 1, 0, none⟩ = some (.bool m3) ∧ w'.cell? ⟨g + 1 + 1, 1, none⟩ = some (.int .i8 s3) ∧ w'.cell? ⟨g + 1 + 1, 2, none⟩ = some (.int .u64 c3)) (first | exact ⟨k0, k1, k2, k3, k4, k5, k6, k7, k8⟩ | exact ⟨y0, y1, y2, y3, y4, y5, y6, y7, y8⟩ | exact ⟨nc0, nc1, nc2, nc3, nc4, nc5, nc6, nc7, nc8⟩ | exact ⟨far3 (by omega) nc0, far3 (by omega) nc1, far3 (by omega) nc2, far3 (by omega) nc3, far3 (by omega) nc4, far3 (by omega) nc5, far3 (by omega) nc6, far3 (by omega) nc7, far3 (by omega) nc8⟩) (first
    | (go_at_call 81; (with_reducible refine (H_hneg.out _).mono ?_); rintro e w3 ⟨rfl, r2⟩; have hf3 : Fresh w1 w3 := (by first | exact r2 | exact r2.of_drew | exact r2.of_drewN); have y0 := cell_fresh k0 hf3; have y1 := cell_fresh k1 hf3; have y2 := cell_fresh k2 hf3; have y3 := cell_fresh k3 hf3; have y4 := cell_fresh k4 hf3; have y5 := cell_fresh k5 hf3; have y6 := cell_fresh k6 hf3; have y7 := cell_fresh k7 hf3; have y8 := cell_fresh k8 hf3; have H_hf3 := Lib.hid hf3; clear r2 hf3)
    | (go_at_call 87; (with_reducible refine (H_hX.out _ (fresh_trans H_hf.out H_hf3.out)).mono ?_); rintro e w6 ⟨ae, rfl, r6⟩; have nc0 := cell_fresh y0 r6; have nc1 := cell_fresh y1 r6; have nc2 := cell_fresh y2 r6; have nc3 := cell_fresh y3 r6; have nc4 := cell_fresh y4 r6; have nc5 := cell_fresh y5 r6; have nc6 := cell_fresh y6 r6; have nc7 := cell_fresh y7 r6; have nc8 := cell_fresh y8 r6; have b5 := row_fresh H_b4.out (fresh_trans H_hf3.out r6); have p0 := row_cell b5 0; have p1 := row_cell b5 1; have p2 := row_cell b5 2; have z0 : w6.frozen? ⟨g + 1 + 1 + 1, 0, none⟩ = false := frozen_of_row _ _ _ _ _ b5; have z1 : w6.frozen? ⟨g + 1 + 1 + 1, 1, none⟩ = false := frozen_of_row _ _ _ _ _ b5; have z2 : w6.frozen? ⟨g + 1 + 1 + 1, 2, none⟩ = false := frozen_of_row _ _ _ _ _ b5; simp at p0 p1 p2; have H_b5 := Lib.hid b5; clear b5; have H_r6 := Lib.hid r6; clear r6))
  go_wp2
  refine bodyPost_ret (results_cell_tmp_row rfl _ _ (g + 1 + 1 + 1) 50 #[.bool false, .int .i8 0, .int .u64 0] (0, 0) _ rfl (row_set (row_set (row_set H_b5.out))) Tryz.underlying50 rfl (by kernel_rfl)) rfl ?_
  exact ⟨ae, rfl, (fresh_trans H_hf.out (fresh_trans H_hf3.out H_r6.out)).set3 (by have := H_hg.out; omega)⟩

end Go.Proofs.YtjdfapoomjeabaaGreatDoor
