/- govalues.Decimal.QuoExact, Quo. -/
import Derived.Test.YtjjolcjeiogdmabGreatDoorK11
import Derived.Test.YtjjolcjeiogdmabGreatDoorK36
namespace Go.Proofs.YtjjolcjeiogdmabGreatDoor
open Go.RowKit

set_option maxRecDepth 20000 in
set_option maxHeartbeats 4000000 in
theorem QuoExact_ok1le (m1 m2 nz : Bool) (c1 s1 c2 s2 sz cz t ct m : Nat) (w : World) (hs1 : s1 ≤ 19) (hs2 : s2 ≤ 19) (hc1 : 0 < c1) (hc2 : 0 < c2) (hm : (s1 : Int) - (s2 : Int) ≤ 0 ∧ m = 0)
    (hF : ∀ W, Fresh w W → Calls Tryz.prog 46 #[gd m1 s1 c1, gd m2 s2 c2, .int .i64 0] W (VRet W (.tuple #[gd nz sz cz, .nilIface])))
    (hT : ∀ W, Fresh w W → Calls Tryz.prog 48 #[gd nz sz cz, .int .i64 0] W (VRet W (gd nz t ct))) :
    Calls Tryz.prog 34 #[gd m1 s1 c1, gd m2 s2 c2, .int .i64 0] w (VRet w (.tuple #[gd nz t ct, .nilIface])) := by
  have z1 : ((c1 : Int) == 0) = false := by rw [beq_eq_false_iff_ne]; omega
  have z2 : ((c2 : Int) == 0) = false := by rw [beq_eq_false_iff_ne]; omega
  obtain ⟨g, hg⟩ : ∃ g, g = w.heap.size := ⟨_, rfl⟩
  have bx := boxes3 w #[.bool m1, .int .i8 s1, .int .u64 c1] #[.bool m2, .int .i8 s2, .int .u64 c2] #[.bool false, .int .i8 0, .int .u64 0] 40 40 40 g hg
  obtain ⟨dI, hdI⟩ : ∃ x : Int, x = (s1 : Int) - (s2 : Int) := ⟨_, rfl⟩
  have hdE : (s1 : Int) - (s2 : Int) = dI := hdI.symm
  have hdw : IntKind.i64.wrap dI = dI := by rw [IntKind.wrap_i64]; omega
  have hd0 : dI ≤ 0 := by omega
  clear hdI
  clear hc1 hc2 hm
  have H_bx := Lib.hid bx; clear bx
  have H_hF := Lib.hid hF; clear hF
  have H_hT := Lib.hid hT; clear hT
  have H_hs1 := Lib.hid hs1; clear hs1
  have H_hs2 := Lib.hid hs2; clear hs2
  go_enter Tryz.func34, Tryz.ntmps34
  go_wp2_with (fail)
  generalize hw1 : ((w.alloc _).alloc _).alloc _ = w1
  rw [← hg]
  obtain ⟨r1, r2, r3, fa, _⟩ := H_bx.out w1 hw1
  obtain ⟨k0, k1, k2, k3, k4, k5⟩ := cells6 r1 r2
  have H_r1 := Lib.hid r1; clear r1
  have H_r2 := Lib.hid r2; clear r2
  have H_r3 := Lib.hid r3; clear r3
  have H_fa := Lib.hid fa; clear fa
  have H_hw1 := Lib.hid hw1; clear hw1
  have H_hg := Lib.hid hg; clear hg
  refine (IsZero_any m2 s2 c2 _).mono ?_
  rintro e w2 ⟨rfl, f9⟩
  have r1 := row_fresh H_r1.out f9
  have r2 := row_fresh H_r2.out f9
  have r3 := row_fresh H_r3.out f9
  have fa := fresh_trans H_fa.out f9
  clear H_r1 H_r2 H_r3 H_fa f9
  clear k0 k1 k2 k3 k4 k5
  obtain ⟨k0, k1, k2, k3, k4, k5⟩ := cells6 r1 r2
  have H_r1 := Lib.hid r1; clear r1
  have H_r2 := Lib.hid r2; clear r2
  have H_r3 := Lib.hid r3; clear r3
  have H_fa := Lib.hid fa; clear fa
  rw [z2]
  go_wp2_with (fail)
  refine (IsZero_any m1 s1 c1 _).mono ?_
  rintro e w3 ⟨rfl, f9⟩
  have r1 := row_fresh H_r1.out f9
  have r2 := row_fresh H_r2.out f9
  have r3 := row_fresh H_r3.out f9
  have fa := fresh_trans H_fa.out f9
  clear H_r1 H_r2 H_r3 H_fa f9
  clear k0 k1 k2 k3 k4 k5
  obtain ⟨k0, k1, k2, k3, k4, k5⟩ := cells6 r1 r2
  have H_r1 := Lib.hid r1; clear r1
  have H_r2 := Lib.hid r2; clear r2
  have H_r3 := Lib.hid r3; clear r3
  have H_fa := Lib.hid fa; clear fa
  rw [z1]
  go_wp2_with (fail)
  refine (H_hF.out _ H_fa.out).mono ?_
  rintro e w4 ⟨rfl, f9⟩
  have r1 := row_fresh H_r1.out f9
  have r2 := row_fresh H_r2.out f9
  have r3 := row_fresh H_r3.out f9
  have fa := fresh_trans H_fa.out f9
  clear H_r1 H_r2 H_r3 H_fa f9
  clear k0 k1 k2 k3 k4 k5
  obtain ⟨k0, k1, k2, k3, k4, k5⟩ := cells6 r1 r2
  have H_r1 := Lib.hid r1; clear r1
  have H_r2 := Lib.hid r2; clear r2
  have H_r3 := Lib.hid r3; clear r3
  have H_fa := Lib.hid fa; clear fa
  obtain ⟨h8, hh8⟩ : ∃ h, h = w4.heap.size := ⟨_, rfl⟩
  have hlt3 := row_lt3 H_r3.out
  have H_hh8 := Lib.hid hh8; clear hh8
  have H_hlt3 := Lib.hid hlt3; clear hlt3
  go_wp2_with (fail)
  generalize hw5 : w4.alloc _ = w5
  have f5 : Fresh w4 w5 := by rw [← hw5]; exact (Keep.refl _ _).alloc _
  have r8 : w5.heap[h8]? = some (.cells #[.bool nz, .int .i8 sz, .int .u64 cz] 40 (0, 0)) := by rw [← hw5, H_hh8.out]; exact heap_alloc_new w4 _
  rw [← H_hh8.out]
  have r1 := row_fresh H_r1.out f5
  have r2 := row_fresh H_r2.out f5
  have r3 := row_fresh H_r3.out f5
  have fa := fresh_trans H_fa.out f5
  clear H_r1 H_r2 H_r3 H_fa k0 k1 k2 k3 k4 k5
  obtain ⟨k0, k1, k2, k3, k4, k5⟩ := cells6 r1 r2
  have hn1 : ¬ h8 = g + 1 + 1 := by have := H_hh8.out; have := H_hlt3.out; omega
  have H_r1 := Lib.hid r1; clear r1
  have H_r2 := Lib.hid r2; clear r2
  have H_r3 := Lib.hid r3; clear r3
  have H_fa := Lib.hid fa; clear fa
  have H_f5 := Lib.hid f5; clear f5
  have H_hw5 := Lib.hid hw5; clear hw5
  have H_r8 := Lib.hid r8; clear r8
  go_region_held3 (fun (w' : World) => w'.cell? ⟨g, 0, none⟩ = some (.bool m1) ∧ w'.cell? ⟨g, 1, none⟩ = some (.int .i8 s1) ∧ w'.cell? ⟨g, 2, none⟩ = some (.int .u64 c1) ∧ w'.cell? ⟨g + 1, 0, none⟩ = some (.bool m2) ∧ w'.cell? ⟨g + 1, 1, none⟩ = some (.int .i8 s2) ∧ w'.cell? ⟨g + 1, 2, none⟩ = some (.int .u64 c2)) (first | exact ⟨k0, k1, k2, k3, k4, k5⟩ | exact ⟨ka0, ka1, ka2, ka3, ka4, ka5⟩ | exact ⟨kb0, kb1, kb2, kb3, kb4, kb5⟩) (first
    | (go_at_call 24; (with_reducible refine (Scale_any m1 s1 c1 _ H_hs1.out).mono ?_); rintro e y1 ⟨rfl, r⟩; have hy1 : Fresh w5 y1 := (by first | exact r | exact r.of_drew | exact r.of_drewN); obtain ⟨ka0, ka1, ka2, ka3, ka4, ka5⟩ := cells6 (row_fresh H_r1.out hy1) (row_fresh H_r2.out hy1); have H_hy1 := Lib.hid hy1; clear r hy1)
    | (go_at_call 24; (with_reducible refine (Scale_any m2 s2 c2 _ H_hs2.out).mono ?_); rintro e y2 ⟨rfl, r⟩; have hy2 : Fresh w5 y2 := fresh_trans H_hy1.out r; obtain ⟨kb0, kb1, kb2, kb3, kb4, kb5⟩ := cells6 (row_fresh H_r1.out hy2) (row_fresh H_r2.out hy2); have H_hy2 := Lib.hid hy2; clear r hy2))
  have r8 := row_fresh H_r8.out H_hy2.out
  have r3 := row_fresh H_r3.out H_hy2.out
  have fa := fresh_trans H_fa.out H_hy2.out
  clear H_r8 H_r3 H_fa H_r1 H_r2
  have x0 := row_cell r8 0
  have x1 := row_cell r8 1
  have x2 := row_cell r8 2
  simp at x0 x1 x2
  have H_r8 := Lib.hid r8; clear r8
  have H_r3 := Lib.hid r3; clear r3
  have H_fa := Lib.hid fa; clear fa
  go_wp2_with (fail)
  refine (H_hT.out _ H_fa.out).mono ?_
  rintro e w6 ⟨rfl, f6⟩
  have r8 := row_fresh H_r8.out f6
  have r3 := row_fresh H_r3.out f6
  have fa := fresh_trans H_fa.out f6
  clear H_r8 H_r3 H_fa x0 x1 x2
  have x0 := row_cell r8 0
  have x1 := row_cell r8 1
  have x2 := row_cell r8 2
  simp at x0 x1 x2
  have y0 := frozen_of_row _ _ 0 _ _ r8
  have y1 := frozen_of_row _ _ 1 _ _ r8
  have y2 := frozen_of_row _ _ 2 _ _ r8
  have p0 := row_cell r3 0
  have p1 := row_cell r3 1
  have p2 := row_cell r3 2
  simp at p0 p1 p2
  have q0 := frozen_of_row _ _ 0 _ _ r3
  have q1 := frozen_of_row _ _ 1 _ _ r3
  have q2 := frozen_of_row _ _ 2 _ _ r3
  have hn2 : ¬ g + 1 + 1 = h8 := fun e => hn1 e.symm
  have r3x : ((((w6.setCell ⟨h8, 0, none⟩ (.bool nz)).setCell ⟨h8, 1, none⟩ (.int .i8 t)).setCell ⟨h8, 2, none⟩ (.int .u64 ct))).heap[g + 1 + 1]? = some (.cells #[.bool false, .int .i8 0, .int .u64 0] 40 (0, 0)) := by
    rw [row_far hn1, row_far hn1, row_far hn1]; exact r3
  have H_r8 := Lib.hid r8; clear r8
  have H_r3 := Lib.hid r3; clear r3
  have H_fa := Lib.hid fa; clear fa
  have H_f6 := Lib.hid f6; clear f6
  have H_r3x := Lib.hid r3x; clear r3x
  go_wp2_with (fail)
  refine bodyPost_ret (results_cell_tmp_row rfl _ _ (g + 1 + 1) 40 #[.bool nz, .int .i8 t, .int .u64 ct] (0, 0) _ rfl (row_set (row_set (row_set H_r3x.out))) Tryz.underlying40 rfl (by kernel_rfl)) rfl ?_
  exact ⟨rfl, Fresh.set3 (Fresh.set3 H_fa.out (by have := H_hh8.out; have := H_hlt3.out; have := H_hg.out; omega)) (by have := H_hg.out; omega)⟩

set_option maxRecDepth 20000 in
set_option maxHeartbeats 4000000 in
theorem QuoExact_ok2le (m1 m2 nz : Bool) (c1 s1 c2 s2 sz cz t ct m : Nat) (w : World) (hs1 : s1 ≤ 19) (hs2 : s2 ≤ 19) (hc1 : 0 < c1) (hc2 : 0 < c2) (hm : (s1 : Int) - (s2 : Int) ≤ 0 ∧ m = 0)
    (hF : ∀ W, Fresh w W → Calls Tryz.prog 46 #[gd m1 s1 c1, gd m2 s2 c2, .int .i64 0] W (ClampErr W))
    (hB : ∀ W, Fresh w W → Calls Tryz.prog 47 #[gd m1 s1 c1, gd m2 s2 c2, .int .i64 0] W (VRet W (.tuple #[gd nz sz cz, .nilIface])))
    (hT : ∀ W, Fresh w W → Calls Tryz.prog 48 #[gd nz sz cz, .int .i64 0] W (VRet W (gd nz t ct))) :
    Calls Tryz.prog 34 #[gd m1 s1 c1, gd m2 s2 c2, .int .i64 0] w (VRet w (.tuple #[gd nz t ct, .nilIface])) := by
  have z1 : ((c1 : Int) == 0) = false := by rw [beq_eq_false_iff_ne]; omega
  have z2 : ((c2 : Int) == 0) = false := by rw [beq_eq_false_iff_ne]; omega
  obtain ⟨g, hg⟩ : ∃ g, g = w.heap.size := ⟨_, rfl⟩
  have bx := boxes3 w #[.bool m1, .int .i8 s1, .int .u64 c1] #[.bool m2, .int .i8 s2, .int .u64 c2] #[.bool false, .int .i8 0, .int .u64 0] 40 40 40 g hg
  obtain ⟨dI, hdI⟩ : ∃ x : Int, x = (s1 : Int) - (s2 : Int) := ⟨_, rfl⟩
  have hdE : (s1 : Int) - (s2 : Int) = dI := hdI.symm
  have hdw : IntKind.i64.wrap dI = dI := by rw [IntKind.wrap_i64]; omega
  have hd0 : dI ≤ 0 := by omega
  clear hdI
  clear hc1 hc2 hm
  have H_bx := Lib.hid bx; clear bx
  have H_hF := Lib.hid hF; clear hF
  have H_hB := Lib.hid hB; clear hB
  have H_hT := Lib.hid hT; clear hT
  have H_hs1 := Lib.hid hs1; clear hs1
  have H_hs2 := Lib.hid hs2; clear hs2
  go_enter Tryz.func34, Tryz.ntmps34
  go_wp2_with (fail)
  generalize hw1 : ((w.alloc _).alloc _).alloc _ = w1
  rw [← hg]
  obtain ⟨r1, r2, r3, fa, _⟩ := H_bx.out w1 hw1
  obtain ⟨k0, k1, k2, k3, k4, k5⟩ := cells6 r1 r2
  have H_r1 := Lib.hid r1; clear r1
  have H_r2 := Lib.hid r2; clear r2
  have H_r3 := Lib.hid r3; clear r3
  have H_fa := Lib.hid fa; clear fa
  have H_hw1 := Lib.hid hw1; clear hw1
  have H_hg := Lib.hid hg; clear hg
  refine (IsZero_any m2 s2 c2 _).mono ?_
  rintro e w2 ⟨rfl, f9⟩
  have r1 := row_fresh H_r1.out f9
  have r2 := row_fresh H_r2.out f9
  have r3 := row_fresh H_r3.out f9
  have fa := fresh_trans H_fa.out f9
  clear H_r1 H_r2 H_r3 H_fa f9
  clear k0 k1 k2 k3 k4 k5
  obtain ⟨k0, k1, k2, k3, k4, k5⟩ := cells6 r1 r2
  have H_r1 := Lib.hid r1; clear r1
  have H_r2 := Lib.hid r2; clear r2
  have H_r3 := Lib.hid r3; clear r3
  have H_fa := Lib.hid fa; clear fa
  rw [z2]
  go_wp2_with (fail)
  refine (IsZero_any m1 s1 c1 _).mono ?_
  rintro e w3 ⟨rfl, f9⟩
  have r1 := row_fresh H_r1.out f9
  have r2 := row_fresh H_r2.out f9
  have r3 := row_fresh H_r3.out f9
  have fa := fresh_trans H_fa.out f9
  clear H_r1 H_r2 H_r3 H_fa f9
  clear k0 k1 k2 k3 k4 k5
  obtain ⟨k0, k1, k2, k3, k4, k5⟩ := cells6 r1 r2
  have H_r1 := Lib.hid r1; clear r1
  have H_r2 := Lib.hid r2; clear r2
  have H_r3 := Lib.hid r3; clear r3
  have H_fa := Lib.hid fa; clear fa
  rw [z1]
  go_wp2_with (fail)
  refine (H_hF.out _ H_fa.out).mono ?_
  rintro e w4 ⟨ae, rfl, f9⟩
  have r1 := row_fresh H_r1.out f9
  have r2 := row_fresh H_r2.out f9
  have r3 := row_fresh H_r3.out f9
  have fa := fresh_trans H_fa.out f9
  clear H_r1 H_r2 H_r3 H_fa f9
  clear k0 k1 k2 k3 k4 k5
  obtain ⟨k0, k1, k2, k3, k4, k5⟩ := cells6 r1 r2
  have H_r1 := Lib.hid r1; clear r1
  have H_r2 := Lib.hid r2; clear r2
  have H_r3 := Lib.hid r3; clear r3
  have H_fa := Lib.hid fa; clear fa
  obtain ⟨h8, hh8⟩ : ∃ h, h = w4.heap.size := ⟨_, rfl⟩
  have hlt3 := row_lt3 H_r3.out
  have a0 := fun o => row_cell (row_fresh H_r1.out ((Keep.refl (fun _ => False) w4).alloc o)) 0
  have a1 := fun o => row_cell (row_fresh H_r1.out ((Keep.refl (fun _ => False) w4).alloc o)) 1
  have a2 := fun o => row_cell (row_fresh H_r1.out ((Keep.refl (fun _ => False) w4).alloc o)) 2
  have b0 := fun o => row_cell (row_fresh H_r2.out ((Keep.refl (fun _ => False) w4).alloc o)) 0
  have b1 := fun o => row_cell (row_fresh H_r2.out ((Keep.refl (fun _ => False) w4).alloc o)) 1
  have b2 := fun o => row_cell (row_fresh H_r2.out ((Keep.refl (fun _ => False) w4).alloc o)) 2
  simp at a0 a1 a2 b0 b1 b2
  clear k0 k1 k2 k3 k4 k5
  have H_hh8 := Lib.hid hh8; clear hh8
  have H_hlt3 := Lib.hid hlt3; clear hlt3
  go_wp2_with (fail)
  generalize hw5 : w4.alloc _ = wa
  have f5 : Fresh w4 wa := by rw [← hw5]; exact (Keep.refl _ _).alloc _
  have r8 : wa.heap[h8]? = some (.cells #[.bool false, .int .i8 0, .int .u64 0] 40 (0, 0)) := by rw [← hw5, H_hh8.out]; exact heap_alloc_new w4 _
  rw [← H_hh8.out]
  clear a0 a1 a2 b0 b1 b2
  have r1 := row_fresh H_r1.out f5
  have r2 := row_fresh H_r2.out f5
  have r3 := row_fresh H_r3.out f5
  have fa := fresh_trans H_fa.out f5
  clear H_r1 H_r2 H_r3 H_fa
  have H_r1 := Lib.hid r1; clear r1
  have H_r2 := Lib.hid r2; clear r2
  have H_r3 := Lib.hid r3; clear r3
  have H_fa := Lib.hid fa; clear fa
  have H_f5 := Lib.hid f5; clear f5
  have H_hw5 := Lib.hid hw5; clear hw5
  have H_r8 := Lib.hid r8; clear r8
  refine (H_hB.out _ H_fa.out).mono ?_
  rintro e wb ⟨rfl, f9⟩
  have r8 := row_fresh H_r8.out f9
  have r1 := row_fresh H_r1.out f9
  have r2 := row_fresh H_r2.out f9
  have r3 := row_fresh H_r3.out f9
  have fa := fresh_trans H_fa.out f9
  clear H_r8 H_r1 H_r2 H_r3 H_fa f9
  have x0 := row_cell r8 0
  have x1 := row_cell r8 1
  have x2 := row_cell r8 2
  simp at x0 x1 x2
  have y0 := frozen_of_row _ _ 0 _ _ r8
  have y1 := frozen_of_row _ _ 1 _ _ r8
  have y2 := frozen_of_row _ _ 2 _ _ r8
  have hn1 : ¬ h8 = g + 1 + 1 := by have := H_hh8.out; have := H_hlt3.out; omega
  have hn3 : ¬ h8 = g + 1 := by have := H_hh8.out; have := H_hlt3.out; omega
  have hn4 : ¬ h8 = g := by have := H_hh8.out; have := H_hlt3.out; omega
  have H_r8 := Lib.hid r8; clear r8
  have H_r1 := Lib.hid r1; clear r1
  have H_r2 := Lib.hid r2; clear r2
  have H_r3 := Lib.hid r3; clear r3
  have H_fa := Lib.hid fa; clear fa
  go_wp2_with (fail)
  generalize hw6 : ((wb.setCell ⟨h8, 0, none⟩ (.bool nz)).setCell ⟨h8, 1, none⟩ (.int .i8 sz)).setCell ⟨h8, 2, none⟩ (.int .u64 cz) = w5 at *
  have r8 : w5.heap[h8]? = some (.cells #[.bool nz, .int .i8 sz, .int .u64 cz] 40 (0, 0)) := by rw [← hw6]; exact row_set (row_set (row_set H_r8.out))
  have r1 : w5.heap[g]? = some (.cells #[.bool m1, .int .i8 s1, .int .u64 c1] 40 (0, 0)) := by rw [← hw6, row_far hn4, row_far hn4, row_far hn4]; exact H_r1.out
  have r2 : w5.heap[g + 1]? = some (.cells #[.bool m2, .int .i8 s2, .int .u64 c2] 40 (0, 0)) := by rw [← hw6, row_far hn3, row_far hn3, row_far hn3]; exact H_r2.out
  have r3 : w5.heap[g + 1 + 1]? = some (.cells #[.bool false, .int .i8 0, .int .u64 0] 40 (0, 0)) := by rw [← hw6, row_far hn1, row_far hn1, row_far hn1]; exact H_r3.out
  have fa : Fresh w w5 := by rw [← hw6]; exact Fresh.set3 H_fa.out (by have := H_hh8.out; have := H_hlt3.out; have := H_hg.out; omega)
  clear H_r8 H_r1 H_r2 H_r3 H_fa x0 x1 x2 y0 y1 y2
  obtain ⟨k0, k1, k2, k3, k4, k5⟩ := cells6 r1 r2
  have H_r1 := Lib.hid r1; clear r1
  have H_r2 := Lib.hid r2; clear r2
  have H_r3 := Lib.hid r3; clear r3
  have H_fa := Lib.hid fa; clear fa
  have H_hw6 := Lib.hid hw6; clear hw6
  have H_r8 := Lib.hid r8; clear r8
  go_region_held3 (fun (w' : World) => w'.cell? ⟨g, 0, none⟩ = some (.bool m1) ∧ w'.cell? ⟨g, 1, none⟩ = some (.int .i8 s1) ∧ w'.cell? ⟨g, 2, none⟩ = some (.int .u64 c1) ∧ w'.cell? ⟨g + 1, 0, none⟩ = some (.bool m2) ∧ w'.cell? ⟨g + 1, 1, none⟩ = some (.int .i8 s2) ∧ w'.cell? ⟨g + 1, 2, none⟩ = some (.int .u64 c2)) (first | exact ⟨k0, k1, k2, k3, k4, k5⟩ | exact ⟨ka0, ka1, ka2, ka3, ka4, ka5⟩ | exact ⟨kb0, kb1, kb2, kb3, kb4, kb5⟩) (first
    | (go_at_call 24; (with_reducible refine (Scale_any m1 s1 c1 _ H_hs1.out).mono ?_); rintro e y1 ⟨rfl, r⟩; have hy1 : Fresh w5 y1 := (by first | exact r | exact r.of_drew | exact r.of_drewN); obtain ⟨ka0, ka1, ka2, ka3, ka4, ka5⟩ := cells6 (row_fresh H_r1.out hy1) (row_fresh H_r2.out hy1); have H_hy1 := Lib.hid hy1; clear r hy1)
    | (go_at_call 24; (with_reducible refine (Scale_any m2 s2 c2 _ H_hs2.out).mono ?_); rintro e y2 ⟨rfl, r⟩; have hy2 : Fresh w5 y2 := fresh_trans H_hy1.out r; obtain ⟨kb0, kb1, kb2, kb3, kb4, kb5⟩ := cells6 (row_fresh H_r1.out hy2) (row_fresh H_r2.out hy2); have H_hy2 := Lib.hid hy2; clear r hy2))
  have r8 := row_fresh H_r8.out H_hy2.out
  have r3 := row_fresh H_r3.out H_hy2.out
  have fa := fresh_trans H_fa.out H_hy2.out
  clear H_r8 H_r3 H_fa H_r1 H_r2
  have x0 := row_cell r8 0
  have x1 := row_cell r8 1
  have x2 := row_cell r8 2
  simp at x0 x1 x2
  have H_r8 := Lib.hid r8; clear r8
  have H_r3 := Lib.hid r3; clear r3
  have H_fa := Lib.hid fa; clear fa
  go_wp2_with (fail)
  refine (H_hT.out _ H_fa.out).mono ?_
  rintro e w6 ⟨rfl, f6⟩
  have r8 := row_fresh H_r8.out f6
  have r3 := row_fresh H_r3.out f6
  have fa := fresh_trans H_fa.out f6
  clear H_r8 H_r3 H_fa x0 x1 x2
  have x0 := row_cell r8 0
  have x1 := row_cell r8 1
  have x2 := row_cell r8 2
  simp at x0 x1 x2
  have y0 := frozen_of_row _ _ 0 _ _ r8
  have y1 := frozen_of_row _ _ 1 _ _ r8
  have y2 := frozen_of_row _ _ 2 _ _ r8
  have p0 := row_cell r3 0
  have p1 := row_cell r3 1
  have p2 := row_cell r3 2
  simp at p0 p1 p2
  have q0 := frozen_of_row _ _ 0 _ _ r3
  have q1 := frozen_of_row _ _ 1 _ _ r3
  have q2 := frozen_of_row _ _ 2 _ _ r3
  have hn2 : ¬ g + 1 + 1 = h8 := fun e => hn1 e.symm
  have r3x : ((((w6.setCell ⟨h8, 0, none⟩ (.bool nz)).setCell ⟨h8, 1, none⟩ (.int .i8 t)).setCell ⟨h8, 2, none⟩ (.int .u64 ct))).heap[g + 1 + 1]? = some (.cells #[.bool false, .int .i8 0, .int .u64 0] 40 (0, 0)) := by
    rw [row_far hn1, row_far hn1, row_far hn1]; exact r3
  have H_r8 := Lib.hid r8; clear r8
  have H_r3 := Lib.hid r3; clear r3
  have H_fa := Lib.hid fa; clear fa
  have H_f6 := Lib.hid f6; clear f6
  have H_r3x := Lib.hid r3x; clear r3x
  go_wp2_with (fail)
  refine bodyPost_ret (results_cell_tmp_row rfl _ _ (g + 1 + 1) 40 #[.bool nz, .int .i8 t, .int .u64 ct] (0, 0) _ rfl (row_set (row_set (row_set H_r3x.out))) Tryz.underlying40 rfl (by kernel_rfl)) rfl ?_
  exact ⟨rfl, Fresh.set3 (Fresh.set3 H_fa.out (by have := H_hh8.out; have := H_hlt3.out; have := H_hg.out; omega)) (by have := H_hg.out; omega)⟩

end Go.Proofs.YtjjolcjeiogdmabGreatDoor

/- govalues.Decimal.QuoExact: the faults; Quo. -/
namespace Go.Proofs.YtjjolcjeiogdmabGreatDoor
open Go.RowKit

set_option maxRecDepth 20000 in
set_option maxHeartbeats 4000000 in
theorem QuoExact_no (m1 m2 : Bool) (c1 s1 c2 s2 : Nat) (w : World) (hs1 : s1 ≤ 19) (hs2 : s2 ≤ 19) (hc1 : 0 < c1) (hc2 : 0 < c2)
    (hF : ∀ W, Fresh w W → Calls Tryz.prog 46 #[gd m1 s1 c1, gd m2 s2 c2, .int .i64 0] W (ClampErr W))
    (hB : ∀ W, Fresh w W → Calls Tryz.prog 47 #[gd m1 s1 c1, gd m2 s2 c2, .int .i64 0] W (ClampErr W)) :
    Calls Tryz.prog 34 #[gd m1 s1 c1, gd m2 s2 c2, .int .i64 0] w (ClampErr w) := by
  have z1 : ((c1 : Int) == 0) = false := by rw [beq_eq_false_iff_ne]; omega
  have z2 : ((c2 : Int) == 0) = false := by rw [beq_eq_false_iff_ne]; omega
  obtain ⟨g, hg⟩ : ∃ g, g = w.heap.size := ⟨_, rfl⟩
  have bx := boxes3 w #[.bool m1, .int .i8 s1, .int .u64 c1] #[.bool m2, .int .i8 s2, .int .u64 c2] #[.bool false, .int .i8 0, .int .u64 0] 40 40 40 g hg
  clear hc1 hc2
  have H_bx := Lib.hid bx; clear bx
  have H_hF := Lib.hid hF; clear hF
  have H_hB := Lib.hid hB; clear hB
  have H_hs1 := Lib.hid hs1; clear hs1
  have H_hs2 := Lib.hid hs2; clear hs2
  go_enter Tryz.func34, Tryz.ntmps34
  go_wp2_with (fail)
  generalize hw1 : ((w.alloc _).alloc _).alloc _ = w1
  rw [← hg]
  obtain ⟨r1, r2, r3, fa, _⟩ := H_bx.out w1 hw1
  obtain ⟨k0, k1, k2, k3, k4, k5⟩ := cells6 r1 r2
  have H_r1 := Lib.hid r1; clear r1
  have H_r2 := Lib.hid r2; clear r2
  have H_r3 := Lib.hid r3; clear r3
  have H_fa := Lib.hid fa; clear fa
  have H_hw1 := Lib.hid hw1; clear hw1
  have H_hg := Lib.hid hg; clear hg
  refine (IsZero_any m2 s2 c2 _).mono ?_
  rintro e w2 ⟨rfl, f9⟩
  have r1 := row_fresh H_r1.out f9
  have r2 := row_fresh H_r2.out f9
  have r3 := row_fresh H_r3.out f9
  have fa := fresh_trans H_fa.out f9
  clear H_r1 H_r2 H_r3 H_fa f9
  clear k0 k1 k2 k3 k4 k5
  obtain ⟨k0, k1, k2, k3, k4, k5⟩ := cells6 r1 r2
  have H_r1 := Lib.hid r1; clear r1
  have H_r2 := Lib.hid r2; clear r2
  have H_r3 := Lib.hid r3; clear r3
  have H_fa := Lib.hid fa; clear fa
  rw [z2]
  go_wp2_with (fail)
  refine (IsZero_any m1 s1 c1 _).mono ?_
  rintro e w3 ⟨rfl, f9⟩
  have r1 := row_fresh H_r1.out f9
  have r2 := row_fresh H_r2.out f9
  have r3 := row_fresh H_r3.out f9
  have fa := fresh_trans H_fa.out f9
  clear H_r1 H_r2 H_r3 H_fa f9
  clear k0 k1 k2 k3 k4 k5
  obtain ⟨k0, k1, k2, k3, k4, k5⟩ := cells6 r1 r2
  have H_r1 := Lib.hid r1; clear r1
  have H_r2 := Lib.hid r2; clear r2
  have H_r3 := Lib.hid r3; clear r3
  have H_fa := Lib.hid fa; clear fa
  rw [z1]
  go_wp2_with (fail)
  refine (H_hF.out _ H_fa.out).mono ?_
  rintro e w4 ⟨ae, rfl, f9⟩
  have r1 := row_fresh H_r1.out f9
  have r2 := row_fresh H_r2.out f9
  have r3 := row_fresh H_r3.out f9
  have fa := fresh_trans H_fa.out f9
  clear H_r1 H_r2 H_r3 H_fa f9
  clear k0 k1 k2 k3 k4 k5
  obtain ⟨k0, k1, k2, k3, k4, k5⟩ := cells6 r1 r2
  have H_r1 := Lib.hid r1; clear r1
  have H_r2 := Lib.hid r2; clear r2
  have H_r3 := Lib.hid r3; clear r3
  have H_fa := Lib.hid fa; clear fa
  obtain ⟨h8, hh8⟩ : ∃ h, h = w4.heap.size := ⟨_, rfl⟩
  have hlt3 := row_lt3 H_r3.out
  have a0 := fun o => row_cell (row_fresh H_r1.out ((Keep.refl (fun _ => False) w4).alloc o)) 0
  have a1 := fun o => row_cell (row_fresh H_r1.out ((Keep.refl (fun _ => False) w4).alloc o)) 1
  have a2 := fun o => row_cell (row_fresh H_r1.out ((Keep.refl (fun _ => False) w4).alloc o)) 2
  have b0 := fun o => row_cell (row_fresh H_r2.out ((Keep.refl (fun _ => False) w4).alloc o)) 0
  have b1 := fun o => row_cell (row_fresh H_r2.out ((Keep.refl (fun _ => False) w4).alloc o)) 1
  have b2 := fun o => row_cell (row_fresh H_r2.out ((Keep.refl (fun _ => False) w4).alloc o)) 2
  simp at a0 a1 a2 b0 b1 b2
  clear k0 k1 k2 k3 k4 k5
  have H_hh8 := Lib.hid hh8; clear hh8
  have H_hlt3 := Lib.hid hlt3; clear hlt3
  go_wp2_with (fail)
  generalize hw5 : w4.alloc _ = wa
  have f5 : Fresh w4 wa := by rw [← hw5]; exact (Keep.refl _ _).alloc _
  have r8 : wa.heap[h8]? = some (.cells #[.bool false, .int .i8 0, .int .u64 0] 40 (0, 0)) := by rw [← hw5, H_hh8.out]; exact heap_alloc_new w4 _
  rw [← H_hh8.out]
  clear a0 a1 a2 b0 b1 b2
  have r1 := row_fresh H_r1.out f5
  have r2 := row_fresh H_r2.out f5
  have r3 := row_fresh H_r3.out f5
  have fa := fresh_trans H_fa.out f5
  clear H_r1 H_r2 H_r3 H_fa
  have H_r1 := Lib.hid r1; clear r1
  have H_r2 := Lib.hid r2; clear r2
  have H_r3 := Lib.hid r3; clear r3
  have H_fa := Lib.hid fa; clear fa
  have H_f5 := Lib.hid f5; clear f5
  have H_hw5 := Lib.hid hw5; clear hw5
  have H_r8 := Lib.hid r8; clear r8
  refine (H_hB.out _ H_fa.out).mono ?_
  rintro e wb ⟨be, rfl, f9⟩
  have r8 := row_fresh H_r8.out f9
  have r3 := row_fresh H_r3.out f9
  have fa := fresh_trans H_fa.out f9
  clear H_r8 H_r3 H_fa f9
  have x0 := row_cell r8 0
  have x1 := row_cell r8 1
  have x2 := row_cell r8 2
  simp at x0 x1 x2
  have y0 := frozen_of_row _ _ 0 _ _ r8
  have y1 := frozen_of_row _ _ 1 _ _ r8
  have y2 := frozen_of_row _ _ 2 _ _ r8
  have hn1 : ¬ h8 = g + 1 + 1 := by have := H_hh8.out; have := H_hlt3.out; omega
  have H_r8 := Lib.hid r8; clear r8
  have H_r3 := Lib.hid r3; clear r3
  have H_fa := Lib.hid fa; clear fa
  go_wp2_with (fail)
  generalize hw6 : ((wb.setCell _ _).setCell _ _).setCell _ _ = w5
  have r3 : w5.heap[g + 1 + 1]? = some (.cells #[.bool false, .int .i8 0, .int .u64 0] 40 (0, 0)) := by rw [← hw6, row_far hn1, row_far hn1, row_far hn1]; exact H_r3.out
  have fa : Fresh w w5 := by rw [← hw6]; exact Fresh.set3 H_fa.out (by have := H_hh8.out; have := H_hlt3.out; have := H_hg.out; omega)
  clear H_r3 H_r8 H_fa x0 x1 x2 y0 y1 y2
  have H_r3 := Lib.hid r3; clear r3
  have H_fa := Lib.hid fa; clear fa
  have H_hw6 := Lib.hid hw6; clear hw6
  refine (errorsNew_any _ _).mono ?_
  rintro e w9 ⟨ce, rfl, f6⟩
  have r3 := row_fresh H_r3.out f6
  have fa := fresh_trans H_fa.out f6
  clear H_r3 H_fa
  have p0 := row_cell r3 0
  have p1 := row_cell r3 1
  have p2 := row_cell r3 2
  simp at p0 p1 p2
  have q0 := frozen_of_row _ _ 0 _ _ r3
  have q1 := frozen_of_row _ _ 1 _ _ r3
  have q2 := frozen_of_row _ _ 2 _ _ r3
  have H_r3 := Lib.hid r3; clear r3
  have H_fa := Lib.hid fa; clear fa
  have H_f6 := Lib.hid f6; clear f6
  go_wp2_with (fail)
  refine bodyPost_ret (results_cell_tmp_row rfl _ _ (g + 1 + 1) 40 #[.bool false, .int .i8 0, .int .u64 0] (0, 0) _ rfl (row_set (row_set (row_set H_r3.out))) Tryz.underlying40 rfl (by kernel_rfl)) rfl ?_
  exact ⟨ce, rfl, Fresh.set3 H_fa.out (by have := H_hg.out; omega)⟩

set_option maxRecDepth 20000 in
set_option maxHeartbeats 4000000 in
theorem QuoExact_ze (m1 m2 : Bool) (c1 s1 s2 : Nat) (w : World) :
    Calls Tryz.prog 34 #[gd m1 s1 c1, gd m2 s2 0, .int .i64 0] w (ClampErr w) := by
  have z2 : (((0 : Nat) : Int) == 0) = true := rfl
  obtain ⟨g, hg⟩ : ∃ g, g = w.heap.size := ⟨_, rfl⟩
  have bx := boxes3 w #[.bool m1, .int .i8 s1, .int .u64 c1] #[.bool m2, .int .i8 s2, .int .u64 (0 : Nat)] #[.bool false, .int .i8 0, .int .u64 0] 40 40 40 g hg
  have H_bx := Lib.hid bx; clear bx
  go_enter Tryz.func34, Tryz.ntmps34
  go_wp2_with (fail)
  generalize hw1 : ((w.alloc _).alloc _).alloc _ = w1
  rw [← hg]
  obtain ⟨r1, r2, r3, fa, _⟩ := H_bx.out w1 hw1
  obtain ⟨k0, k1, k2, k3, k4, k5⟩ := cells6 r1 r2
  have H_r1 := Lib.hid r1; clear r1
  have H_r2 := Lib.hid r2; clear r2
  have H_r3 := Lib.hid r3; clear r3
  have H_fa := Lib.hid fa; clear fa
  have H_hw1 := Lib.hid hw1; clear hw1
  have H_hg := Lib.hid hg; clear hg
  refine (IsZero_any m2 s2 0 _).mono ?_
  rintro e w2 ⟨rfl, f9⟩
  have r3 := row_fresh H_r3.out f9
  have fa := fresh_trans H_fa.out f9
  clear H_r3 H_fa f9 k0 k1 k2 k3 k4 k5
  have H_r3 := Lib.hid r3; clear r3
  have H_fa := Lib.hid fa; clear fa
  rw [z2]
  go_wp2_with (fail)
  refine (errorsNew_any _ _).mono ?_
  rintro e w9 ⟨ce, rfl, f6⟩
  have r3 := row_fresh H_r3.out f6
  have fa := fresh_trans H_fa.out f6
  clear H_r3 H_fa
  have p0 := row_cell r3 0
  have p1 := row_cell r3 1
  have p2 := row_cell r3 2
  simp at p0 p1 p2
  have q0 := frozen_of_row _ _ 0 _ _ r3
  have q1 := frozen_of_row _ _ 1 _ _ r3
  have q2 := frozen_of_row _ _ 2 _ _ r3
  have H_r3 := Lib.hid r3; clear r3
  have H_fa := Lib.hid fa; clear fa
  have H_f6 := Lib.hid f6; clear f6
  go_wp2_with (fail)
  refine bodyPost_ret (results_cell_tmp_row rfl _ _ (g + 1 + 1) 40 #[.bool false, .int .i8 0, .int .u64 0] (0, 0) _ rfl (row_set (row_set (row_set H_r3.out))) Tryz.underlying40 rfl (by kernel_rfl)) rfl ?_
  exact ⟨ce, rfl, Fresh.set3 H_fa.out (by have := H_hg.out; omega)⟩

set_option maxRecDepth 20000 in
set_option maxHeartbeats 4000000 in
theorem Quo_ok (m1 m2 nz : Bool) (c1 s1 c2 s2 sz cz : Nat) (w : World)
    (hX : ∀ W, Fresh w W → Calls Tryz.prog 34 #[gd m1 s1 c1, gd m2 s2 c2, .int .i64 0] W (VRet W (.tuple #[gd nz sz cz, .nilIface]))) :
    Calls Tryz.prog 20 #[gd m1 s1 c1, gd m2 s2 c2] w (VRet w (.tuple #[gd nz sz cz, .nilIface])) := by
  obtain ⟨g, hg⟩ : ∃ g, g = w.heap.size := ⟨_, rfl⟩
  have bx := boxes3 w #[.bool m1, .int .i8 s1, .int .u64 c1] #[.bool m2, .int .i8 s2, .int .u64 c2] #[.bool false, .int .i8 0, .int .u64 0] 40 40 40 g hg
  have H_bx := Lib.hid bx; clear bx
  have H_hX := Lib.hid hX; clear hX
  go_enter Tryz.func20, Tryz.ntmps20
  go_wp2_with (fail)
  generalize hw1 : ((w.alloc _).alloc _).alloc _ = w1
  rw [← hg]
  obtain ⟨r1, r2, r3, fa, _⟩ := H_bx.out w1 hw1
  have H_r1 := Lib.hid r1; clear r1
  have H_r2 := Lib.hid r2; clear r2
  have H_r3 := Lib.hid r3; clear r3
  have H_fa := Lib.hid fa; clear fa
  have H_hw1 := Lib.hid hw1; clear hw1
  have H_hg := Lib.hid hg; clear hg
  refine (H_hX.out _ H_fa.out).mono ?_
  rintro e w2 ⟨rfl, f2⟩
  have r3 := row_fresh H_r3.out f2
  have fa := fresh_trans H_fa.out f2
  clear H_r3 H_fa
  have p0 := row_cell r3 0
  have p1 := row_cell r3 1
  have p2 := row_cell r3 2
  simp at p0 p1 p2
  have q0 := frozen_of_row _ _ 0 _ _ r3
  have q1 := frozen_of_row _ _ 1 _ _ r3
  have q2 := frozen_of_row _ _ 2 _ _ r3
  have H_r3 := Lib.hid r3; clear r3
  have H_fa := Lib.hid fa; clear fa
  have H_f2 := Lib.hid f2; clear f2
  go_wp2_with (fail)
  refine bodyPost_ret (results_cell_tmp_row rfl _ _ (g + 1 + 1) 40 #[.bool nz, .int .i8 sz, .int .u64 cz] (0, 0) _ rfl (row_set (row_set (row_set H_r3.out))) Tryz.underlying40 rfl (by kernel_rfl)) rfl ?_
  exact ⟨rfl, Fresh.set3 H_fa.out (by have := H_hg.out; omega)⟩

set_option maxRecDepth 20000 in
set_option maxHeartbeats 4000000 in
theorem Quo_err (m1 m2 : Bool) (c1 s1 c2 s2 : Nat) (w : World)
    (hX : ∀ W, Fresh w W → Calls Tryz.prog 34 #[gd m1 s1 c1, gd m2 s2 c2, .int .i64 0] W (ClampErr W)) :
    Calls Tryz.prog 20 #[gd m1 s1 c1, gd m2 s2 c2] w (ClampErr w) := by
  obtain ⟨g, hg⟩ : ∃ g, g = w.heap.size := ⟨_, rfl⟩
  have bx := boxes3 w #[.bool m1, .int .i8 s1, .int .u64 c1] #[.bool m2, .int .i8 s2, .int .u64 c2] #[.bool false, .int .i8 0, .int .u64 0] 40 40 40 g hg
  have H_bx := Lib.hid bx; clear bx
  have H_hX := Lib.hid hX; clear hX
  go_enter Tryz.func20, Tryz.ntmps20
  go_wp2_with (fail)
  generalize hw1 : ((w.alloc _).alloc _).alloc _ = w1
  rw [← hg]
  obtain ⟨r1, r2, r3, fa, _⟩ := H_bx.out w1 hw1
  have H_r1 := Lib.hid r1; clear r1
  have H_r2 := Lib.hid r2; clear r2
  have H_r3 := Lib.hid r3; clear r3
  have H_fa := Lib.hid fa; clear fa
  have H_hw1 := Lib.hid hw1; clear hw1
  have H_hg := Lib.hid hg; clear hg
  refine (H_hX.out _ H_fa.out).mono ?_
  rintro e w2 ⟨ae, rfl, f2⟩
  have r3 := row_fresh H_r3.out f2
  have fa := fresh_trans H_fa.out f2
  clear H_r3 H_fa
  have p0 := row_cell r3 0
  have p1 := row_cell r3 1
  have p2 := row_cell r3 2
  simp at p0 p1 p2
  have q0 := frozen_of_row _ _ 0 _ _ r3
  have q1 := frozen_of_row _ _ 1 _ _ r3
  have q2 := frozen_of_row _ _ 2 _ _ r3
  have H_r3 := Lib.hid r3; clear r3
  have H_fa := Lib.hid fa; clear fa
  have H_f2 := Lib.hid f2; clear f2
  go_wp2_with (fail)
  refine bodyPost_ret (results_cell_tmp_row rfl _ _ (g + 1 + 1) 40 #[.bool false, .int .i8 0, .int .u64 0] (0, 0) _ rfl (row_set (row_set (row_set H_r3.out))) Tryz.underlying40 rfl (by kernel_rfl)) rfl ?_
  exact ⟨ae, rfl, Fresh.set3 H_fa.out (by have := H_hg.out; omega)⟩

end Go.Proofs.YtjjolcjeiogdmabGreatDoor
