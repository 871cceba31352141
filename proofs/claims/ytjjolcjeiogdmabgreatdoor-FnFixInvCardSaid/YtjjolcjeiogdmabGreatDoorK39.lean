/- govalues: Decimal.Inv given Decimal.Quo. Printed by gen_iv.py. -/
import Derived.Test.YtjjolcjeiogdmabGreatDoorK5
import Derived.Test.YtjjolcjeiogdmabGreatDoorK38
namespace Go.Proofs.YtjjolcjeiogdmabGreatDoor
open Go.RowKit

theorem far_cell1 {w : World} {h o g o' : Nat} {v : Value} {u : Option Value} (hne : h ≠ g) (k : w.cell? ⟨h, o, none⟩ = u) : (w.setCell ⟨g, o', none⟩ v).cell? ⟨h, o, none⟩ = u := by
  rw [cell?_setCell_ne (.inl hne)]; exact k

set_option maxRecDepth 20000 in
set_option maxHeartbeats 4000000 in
theorem Inv_ok (m nz : Bool) (c s s' c' : Nat) (w : World)
    (hQ : ∀ X, Fresh w X → Calls Tryz.prog 20 #[gd false 0 1, gd m s c] X (VRet X (.tuple #[gd nz s' c', .nilIface]))) :
    Calls Tryz.prog 11 #[gd m s c] w (VRet w (.tuple #[gd nz s' c', .nilIface])) := by
  obtain ⟨g, hg⟩ : ∃ g, g = w.heap.size := ⟨_, rfl⟩
  have bx := boxes2 w #[.bool m, .int .i8 s, .int .u64 c] #[.bool false, .int .i8 0, .int .u64 0] 40 40 g hg
  have H_bx := Lib.hid bx; clear bx
  have H_hQ := Lib.hid hQ; clear hQ
  go_enter Tryz.func11, Tryz.ntmps11
  go_wp2_with (fail)
  generalize hw1 : (w.alloc _).alloc _ = w1
  rw [← hg]
  obtain ⟨d1, d2, fa⟩ := H_bx.out w1 hw1
  have k0 := row_cell d1 0
  have k1 := row_cell d1 1
  have k2 := row_cell d1 2
  simp at k0 k1 k2
  have hlt1 := lt_of_row d1
  have hlt2 := lt_of_row d2
  have hnw : ∀ W0 W, Fresh w1 W0 → Fresh (W0.alloc (.cells #[.bool false, .int .i8 0, .int .u64 0] 40 (0, 0))) W → W.heap[W0.heap.size]? = some (.cells #[.bool false, .int .i8 0, .int .u64 0] 40 (0, 0)) ∧ Fresh w1 W ∧ g ≠ W0.heap.size ∧ g + 1 ≠ W0.heap.size ∧ w.heap.size ≤ W0.heap.size := by
    intro W0 W h0 hW
    have h3 := h0.size
    exact ⟨row_fresh (heap_alloc_new W0 _) hW, fresh_trans (h0.alloc _) hW, by omega, by omega, by omega⟩
  have ka := fun o => cell_fresh k0 ((Keep.refl (fun _ => False) w1).alloc o)
  have kb := fun o => cell_fresh k1 ((Keep.refl (fun _ => False) w1).alloc o)
  have kc := fun o => cell_fresh k2 ((Keep.refl (fun _ => False) w1).alloc o)
  have H_k0 := Lib.hid k0
  have H_k1 := Lib.hid k1
  have H_k2 := Lib.hid k2
  have H_d1 := Lib.hid d1; clear d1
  have H_d2 := Lib.hid d2; clear d2
  have H_fa := Lib.hid fa; clear fa
  have H_hw1 := Lib.hid hw1; clear hw1
  have H_hg := Lib.hid hg; clear hg
  have H_hlt1 := Lib.hid hlt1; clear hlt1
  have H_hlt2 := Lib.hid hlt2; clear hlt2
  have H_hnw := Lib.hid hnw; clear hnw
  go_wp2_with (fail)
  go_region_held3 (fun (w' : World) => w'.cell? ⟨g, 0, none⟩ = some (.bool m) ∧ w'.cell? ⟨g, 1, none⟩ = some (.int .i8 s) ∧ w'.cell? ⟨g, 2, none⟩ = some (.int .u64 c)) (first
    | exact ⟨k0, k1, k2⟩ | exact ⟨j0, j1, j2⟩ | exact ⟨s0, s1, s2⟩
    | exact ⟨ka _, kb _, kc _⟩ | exact ⟨ja _, jb _, jc _⟩ | exact ⟨sa _, sb _, sc _⟩
    | exact ⟨far_cell1 hne (far_cell1 hne (far_cell1 hne s0)), far_cell1 hne (far_cell1 hne (far_cell1 hne s1)), far_cell1 hne (far_cell1 hne (far_cell1 hne s2))⟩) (first
    | (go_at_call 19; (with_reducible refine (One_any _).mono ?_); rintro r w4 ⟨rfl, x4⟩; (first | (obtain ⟨z4, f4, n1, n2, n3⟩ := H_hnw.out w1 w4 (Keep.refl _ _) (fresh_trans ((Keep.refl _ _).drew) x4); obtain ⟨cc, hc⟩ : ∃ cc, cc = w1.heap.size := ⟨_, rfl⟩; rw [← hc] at z4 n1 n2 n3 ⊢; have hne := n1; have H_n2 := Lib.hid n2; have H_n3 := Lib.hid n3; have H_z4 := Lib.hid z4; clear z4 n1 n2 n3 hc) | (have f4 : Fresh w1 w4 := (by first | exact x4 | exact x4.of_drew | exact x4.of_drewN))); have j0 := cell_fresh H_k0.out f4; have j1 := cell_fresh H_k1.out f4; have j2 := cell_fresh H_k2.out f4; have H_f4 := Lib.hid f4; clear x4 f4 ka kb kc; have ja := fun o => cell_fresh j0 ((Keep.refl (fun _ => False) w4).alloc o); have jb := fun o => cell_fresh j1 ((Keep.refl (fun _ => False) w4).alloc o); have jc := fun o => cell_fresh j2 ((Keep.refl (fun _ => False) w4).alloc o))
    | (go_at_call 20; (with_reducible refine (H_hQ.out _ ?c1).mono ?_); (case c1 => first | exact fresh_trans H_fa.out H_f4.out | exact (fresh_trans H_fa.out H_f4.out).alloc _ | exact ((fresh_trans H_fa.out H_f4.out).alloc _).drew | exact (fresh_trans H_fa.out H_f4.out).drew); rintro r w5 ⟨rfl, x5⟩; (first | (have y5 : Fresh w4 w5 := (by first | exact x5 | exact x5.of_drew | exact x5.of_drewN); have z5 := row_fresh H_z4.out y5; have f5 := fresh_trans H_f4.out y5; clear y5; have p0 := row_cell z5 0; have p1 := row_cell z5 1; have p2 := row_cell z5 2; simp at p0 p1 p2; have q0 := frozen_of_row _ _ 0 _ _ z5; have q1 := frozen_of_row _ _ 1 _ _ z5; have q2 := frozen_of_row _ _ 2 _ _ z5; have H_z5 := Lib.hid z5; clear z5) | (obtain ⟨z5, f5, n1, n2, n3⟩ := H_hnw.out w4 w5 H_f4.out (by first | exact x5 | exact fresh_trans ((Keep.refl _ _).drew) x5); obtain ⟨cc, hc⟩ : ∃ cc, cc = w4.heap.size := ⟨_, rfl⟩; rw [← hc] at z5 n1 n2 n3 ⊢; have hne := n1; have H_n2 := Lib.hid n2; have H_n3 := Lib.hid n3; clear n1 n2 n3 hc; have p0 := row_cell z5 0; have p1 := row_cell z5 1; have p2 := row_cell z5 2; simp at p0 p1 p2; have q0 := frozen_of_row _ _ 0 _ _ z5; have q1 := frozen_of_row _ _ 1 _ _ z5; have q2 := frozen_of_row _ _ 2 _ _ z5; have H_z5 := Lib.hid z5; clear z5) | (have f5 : Fresh w1 w5 := fresh_trans H_f4.out (by first | exact x5 | exact x5.of_drew | exact x5.of_drewN))); have s0 := cell_fresh H_k0.out f5; have s1 := cell_fresh H_k1.out f5; have s2 := cell_fresh H_k2.out f5; have H_f5 := Lib.hid f5; clear x5 f5 ja jb jc; have sa := fun o => cell_fresh s0 ((Keep.refl (fun _ => False) w5).alloc o); have sb := fun o => cell_fresh s1 ((Keep.refl (fun _ => False) w5).alloc o); have sc := fun o => cell_fresh s2 ((Keep.refl (fun _ => False) w5).alloc o)))
  all_goals
    first
      | (generalize hw6 : ((w5.setCell _ _).setCell _ _).setCell _ _ = w6
         have z6 : w6.heap[cc]? = some (.cells #[.bool nz, .int .i8 s', .int .u64 c'] 40 (0, 0)) := by rw [← hw6]; exact row3 H_z5.out
         have f6 : Fresh w w6 := by rw [← hw6]; exact Fresh.set3 (fresh_trans H_fa.out H_f5.out) H_n3.out
         have d6 : w6.heap[g + 1]? = some (.cells #[.bool false, .int .i8 0, .int .u64 0] 40 (0, 0)) := by rw [← hw6]; exact row3_ne (Ne.symm H_n2.out) (row_fresh H_d2.out H_f5.out)
         clear p0 p1 p2 q0 q1 q2 s0 s1 s2 sa sb sc
         have H_hw6 := Lib.hid hw6; clear hw6)
      | (generalize hw6 : w5.alloc _ = w6
         obtain ⟨cc, hc⟩ : ∃ cc, cc = w5.heap.size := ⟨_, rfl⟩
         rw [← hc]
         have f56 : Fresh w5 w6 := by rw [← hw6]; exact (Keep.refl _ _).alloc _
         have z6 : w6.heap[cc]? = some (.cells #[.bool nz, .int .i8 s', .int .u64 c'] 40 (0, 0)) := by rw [← hw6, hc]; exact heap_alloc_new w5 _
         have f6 : Fresh w w6 := fresh_trans (fresh_trans H_fa.out H_f5.out) f56
         have d6 : w6.heap[g + 1]? = some (.cells #[.bool false, .int .i8 0, .int .u64 0] 40 (0, 0)) := row_fresh H_d2.out (fresh_trans H_f5.out f56)
         clear s0 s1 s2 sa sb sc
         have H_hw6 := Lib.hid hw6; clear hw6
         have H_hc := Lib.hid hc; clear hc
         have H_f56 := Lib.hid f56; clear f56)
    have x0 := row_cell z6 0
    have x1 := row_cell z6 1
    have x2 := row_cell z6 2
    simp at x0 x1 x2
    have p0 := row_cell d6 0
    have p1 := row_cell d6 1
    have p2 := row_cell d6 2
    simp at p0 p1 p2
    have q0 := frozen_of_row _ _ 0 _ _ d6
    have q1 := frozen_of_row _ _ 1 _ _ d6
    have q2 := frozen_of_row _ _ 2 _ _ d6
    have H_z6 := Lib.hid z6; clear z6
    have H_f6 := Lib.hid f6; clear f6
    have H_d6 := Lib.hid d6; clear d6
    go_wp2_with (fail)
    refine bodyPost_ret (results_cell_tmp_row rfl _ _ (g + 1) 40 #[.bool nz, .int .i8 s', .int .u64 c'] (0, 0) _ rfl (row_set (row_set (row_set H_d6.out))) Tryz.underlying40 rfl (by kernel_rfl)) rfl ?_
    exact ⟨rfl, Fresh.set3 H_f6.out (by have := H_hg.out; omega)⟩

set_option maxRecDepth 20000 in
set_option maxHeartbeats 4000000 in
theorem Inv_err (m : Bool) (c s : Nat) (w : World)
    (hQ : ∀ X, Fresh w X → Calls Tryz.prog 20 #[gd false 0 1, gd m s c] X (ClampErr X)) :
    Calls Tryz.prog 11 #[gd m s c] w (ClampErr w) := by
  obtain ⟨g, hg⟩ : ∃ g, g = w.heap.size := ⟨_, rfl⟩
  have bx := boxes2 w #[.bool m, .int .i8 s, .int .u64 c] #[.bool false, .int .i8 0, .int .u64 0] 40 40 g hg
  have H_bx := Lib.hid bx; clear bx
  have H_hQ := Lib.hid hQ; clear hQ
  go_enter Tryz.func11, Tryz.ntmps11
  go_wp2_with (fail)
  generalize hw1 : (w.alloc _).alloc _ = w1
  rw [← hg]
  obtain ⟨d1, d2, fa⟩ := H_bx.out w1 hw1
  have k0 := row_cell d1 0
  have k1 := row_cell d1 1
  have k2 := row_cell d1 2
  simp at k0 k1 k2
  have hlt1 := lt_of_row d1
  have hlt2 := lt_of_row d2
  have hnw : ∀ W0 W, Fresh w1 W0 → Fresh (W0.alloc (.cells #[.bool false, .int .i8 0, .int .u64 0] 40 (0, 0))) W → W.heap[W0.heap.size]? = some (.cells #[.bool false, .int .i8 0, .int .u64 0] 40 (0, 0)) ∧ Fresh w1 W ∧ g ≠ W0.heap.size ∧ g + 1 ≠ W0.heap.size ∧ w.heap.size ≤ W0.heap.size := by
    intro W0 W h0 hW
    have h3 := h0.size
    exact ⟨row_fresh (heap_alloc_new W0 _) hW, fresh_trans (h0.alloc _) hW, by omega, by omega, by omega⟩
  have ka := fun o => cell_fresh k0 ((Keep.refl (fun _ => False) w1).alloc o)
  have kb := fun o => cell_fresh k1 ((Keep.refl (fun _ => False) w1).alloc o)
  have kc := fun o => cell_fresh k2 ((Keep.refl (fun _ => False) w1).alloc o)
  have H_k0 := Lib.hid k0
  have H_k1 := Lib.hid k1
  have H_k2 := Lib.hid k2
  have H_d1 := Lib.hid d1; clear d1
  have H_d2 := Lib.hid d2; clear d2
  have H_fa := Lib.hid fa; clear fa
  have H_hw1 := Lib.hid hw1; clear hw1
  have H_hg := Lib.hid hg; clear hg
  have H_hlt1 := Lib.hid hlt1; clear hlt1
  have H_hlt2 := Lib.hid hlt2; clear hlt2
  have H_hnw := Lib.hid hnw; clear hnw
  go_wp2_with (fail)
  go_region_held3 (fun (w' : World) => w'.cell? ⟨g, 0, none⟩ = some (.bool m) ∧ w'.cell? ⟨g, 1, none⟩ = some (.int .i8 s) ∧ w'.cell? ⟨g, 2, none⟩ = some (.int .u64 c)) (first
    | exact ⟨k0, k1, k2⟩ | exact ⟨j0, j1, j2⟩ | exact ⟨s0, s1, s2⟩
    | exact ⟨ka _, kb _, kc _⟩ | exact ⟨ja _, jb _, jc _⟩ | exact ⟨sa _, sb _, sc _⟩
    | exact ⟨far_cell1 hne (far_cell1 hne (far_cell1 hne s0)), far_cell1 hne (far_cell1 hne (far_cell1 hne s1)), far_cell1 hne (far_cell1 hne (far_cell1 hne s2))⟩) (first
    | (go_at_call 19; (with_reducible refine (One_any _).mono ?_); rintro r w4 ⟨rfl, x4⟩; (first | (obtain ⟨z4, f4, n1, n2, n3⟩ := H_hnw.out w1 w4 (Keep.refl _ _) (fresh_trans ((Keep.refl _ _).drew) x4); obtain ⟨cc, hc⟩ : ∃ cc, cc = w1.heap.size := ⟨_, rfl⟩; rw [← hc] at z4 n1 n2 n3 ⊢; have hne := n1; have H_n2 := Lib.hid n2; have H_n3 := Lib.hid n3; have H_z4 := Lib.hid z4; clear z4 n1 n2 n3 hc) | (have f4 : Fresh w1 w4 := (by first | exact x4 | exact x4.of_drew | exact x4.of_drewN))); have j0 := cell_fresh H_k0.out f4; have j1 := cell_fresh H_k1.out f4; have j2 := cell_fresh H_k2.out f4; have H_f4 := Lib.hid f4; clear x4 f4 ka kb kc; have ja := fun o => cell_fresh j0 ((Keep.refl (fun _ => False) w4).alloc o); have jb := fun o => cell_fresh j1 ((Keep.refl (fun _ => False) w4).alloc o); have jc := fun o => cell_fresh j2 ((Keep.refl (fun _ => False) w4).alloc o))
    | (go_at_call 20; (with_reducible refine (H_hQ.out _ ?c1).mono ?_); (case c1 => first | exact fresh_trans H_fa.out H_f4.out | exact (fresh_trans H_fa.out H_f4.out).alloc _ | exact ((fresh_trans H_fa.out H_f4.out).alloc _).drew | exact (fresh_trans H_fa.out H_f4.out).drew); rintro r w5 ⟨ae, rfl, x5⟩; (first | (have y5 : Fresh w4 w5 := (by first | exact x5 | exact x5.of_drew | exact x5.of_drewN); have z5 := row_fresh H_z4.out y5; have f5 := fresh_trans H_f4.out y5; clear y5; have p0 := row_cell z5 0; have p1 := row_cell z5 1; have p2 := row_cell z5 2; simp at p0 p1 p2; have q0 := frozen_of_row _ _ 0 _ _ z5; have q1 := frozen_of_row _ _ 1 _ _ z5; have q2 := frozen_of_row _ _ 2 _ _ z5; have H_z5 := Lib.hid z5; clear z5) | (obtain ⟨z5, f5, n1, n2, n3⟩ := H_hnw.out w4 w5 H_f4.out (by first | exact x5 | exact fresh_trans ((Keep.refl _ _).drew) x5); obtain ⟨cc, hc⟩ : ∃ cc, cc = w4.heap.size := ⟨_, rfl⟩; rw [← hc] at z5 n1 n2 n3 ⊢; have hne := n1; have H_n2 := Lib.hid n2; have H_n3 := Lib.hid n3; clear n1 n2 n3 hc; have p0 := row_cell z5 0; have p1 := row_cell z5 1; have p2 := row_cell z5 2; simp at p0 p1 p2; have q0 := frozen_of_row _ _ 0 _ _ z5; have q1 := frozen_of_row _ _ 1 _ _ z5; have q2 := frozen_of_row _ _ 2 _ _ z5; have H_z5 := Lib.hid z5; clear z5) | (have f5 : Fresh w1 w5 := fresh_trans H_f4.out (by first | exact x5 | exact x5.of_drew | exact x5.of_drewN))); have s0 := cell_fresh H_k0.out f5; have s1 := cell_fresh H_k1.out f5; have s2 := cell_fresh H_k2.out f5; have H_f5 := Lib.hid f5; clear x5 f5 ja jb jc; have sa := fun o => cell_fresh s0 ((Keep.refl (fun _ => False) w5).alloc o); have sb := fun o => cell_fresh s1 ((Keep.refl (fun _ => False) w5).alloc o); have sc := fun o => cell_fresh s2 ((Keep.refl (fun _ => False) w5).alloc o)))
  all_goals
    first
      | (generalize hw6 : ((w5.setCell _ _).setCell _ _).setCell _ _ = w6
         have z6 : w6.heap[cc]? = some (.cells #[.bool false, .int .i8 0, .int .u64 0] 40 (0, 0)) := by rw [← hw6]; exact row3 H_z5.out
         have f6 : Fresh w w6 := by rw [← hw6]; exact Fresh.set3 (fresh_trans H_fa.out H_f5.out) H_n3.out
         have d6 : w6.heap[g + 1]? = some (.cells #[.bool false, .int .i8 0, .int .u64 0] 40 (0, 0)) := by rw [← hw6]; exact row3_ne (Ne.symm H_n2.out) (row_fresh H_d2.out H_f5.out)
         clear p0 p1 p2 q0 q1 q2 s0 s1 s2 sa sb sc
         have H_hw6 := Lib.hid hw6; clear hw6)
      | (generalize hw6 : w5.alloc _ = w6
         obtain ⟨cc, hc⟩ : ∃ cc, cc = w5.heap.size := ⟨_, rfl⟩
         rw [← hc]
         have f56 : Fresh w5 w6 := by rw [← hw6]; exact (Keep.refl _ _).alloc _
         have z6 : w6.heap[cc]? = some (.cells #[.bool false, .int .i8 0, .int .u64 0] 40 (0, 0)) := by rw [← hw6, hc]; exact heap_alloc_new w5 _
         have f6 : Fresh w w6 := fresh_trans (fresh_trans H_fa.out H_f5.out) f56
         have d6 : w6.heap[g + 1]? = some (.cells #[.bool false, .int .i8 0, .int .u64 0] 40 (0, 0)) := row_fresh H_d2.out (fresh_trans H_f5.out f56)
         clear s0 s1 s2 sa sb sc
         have H_hw6 := Lib.hid hw6; clear hw6
         have H_hc := Lib.hid hc; clear hc
         have H_f56 := Lib.hid f56; clear f56)
    have x0 := row_cell z6 0
    have x1 := row_cell z6 1
    have x2 := row_cell z6 2
    simp at x0 x1 x2
    have H_z6 := Lib.hid z6; clear z6
    have H_f6 := Lib.hid f6; clear f6
    have H_d6 := Lib.hid d6; clear d6
    go_wp2_with (fail)
    refine (errorsNew_any _ _).mono ?_
    rintro e w9 ⟨ce, rfl, f9⟩
    have d9 := row_fresh H_d6.out f9
    have fb := fresh_trans H_f6.out f9
    clear x0 x1 x2
    have p0 := row_cell d9 0
    have p1 := row_cell d9 1
    have p2 := row_cell d9 2
    simp at p0 p1 p2
    have q0 := frozen_of_row _ _ 0 _ _ d9
    have q1 := frozen_of_row _ _ 1 _ _ d9
    have q2 := frozen_of_row _ _ 2 _ _ d9
    have H_d9 := Lib.hid d9; clear d9
    have H_fb := Lib.hid fb; clear fb
    have H_f9 := Lib.hid f9; clear f9
    go_wp2_with (fail)
    refine bodyPost_ret (results_cell_tmp_row rfl _ _ (g + 1) 40 #[.bool false, .int .i8 0, .int .u64 0] (0, 0) _ rfl (row_set (row_set (row_set H_d9.out))) Tryz.underlying40 rfl (by kernel_rfl)) rfl ?_
    exact ⟨ce, rfl, Fresh.set3 H_fb.out (by have := H_hg.out; omega)⟩

end Go.Proofs.YtjjolcjeiogdmabGreatDoor
