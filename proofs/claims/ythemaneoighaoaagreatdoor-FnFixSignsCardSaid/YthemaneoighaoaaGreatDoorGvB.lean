/- The contracts of govalues' decimals: Neg, Abs, CopySign; of the thin package: fixed, fix. -/
import Derived.Test.YthemaneoighaoaaGreatDoorGv
namespace Go.Proofs.YthemaneoighaoaaGreatDoor
open Go.RowKit

theorem fixed_any (neg : Bool) (s c : Nat) (w : World) (hs : s ≤ 19) (hc : c ≤ 9999999999999999999) :
    Calls Tryz.prog 31 #[fx neg c s] w (VRet w (.tuple #[gd (neg && decide (0 < c)) s c, .bool true])) := by
  obtain ⟨g, hg⟩ : ∃ g, g = w.heap.size := ⟨_, rfl⟩
  have bx := boxes2 w #[.bool neg, .int .u64 c, .int .i64 s] #[.bool false, .int .i8 0, .int .u64 0] 24 59 g hg
  have H_bx := Lib.hid bx; clear bx
  go_enter Tryz.func31, Tryz.ntmps31
  go_wp2_with (fail)
  generalize hw1 : (w.alloc _).alloc _ = w1
  rw [← hg]
  obtain ⟨b1, b2, hf⟩ := H_bx.out w1 hw1
  refine (ZzMake_any neg s c _ hs hc).mono ?_
  rintro e w2 ⟨rfl, hf2⟩
  have b3 := row_fresh b2 hf2
  have hg2 : g + 1 < w2.heap.size := by
    rcases Nat.lt_or_ge (g + 1) w2.heap.size with h | h
    · exact h
    · rw [Array.getElem?_eq_none h] at b3; cases b3
  have H_b1 := Lib.hid b1; clear b1
  have H_b2 := Lib.hid b2; clear b2
  have H_hf := Lib.hid hf; clear hf
  have H_hw1 := Lib.hid hw1; clear hw1
  have H_hg := Lib.hid hg; clear hg
  go_wp2_with (fail)
  generalize hneg : (neg && decide (0 < c)) = neg' at *
  obtain ⟨h, hh⟩ : ∃ h, h = w2.heap.size := ⟨_, rfl⟩
  generalize hw3 : w2.alloc _ = w3
  rw [← hh] at hg2 ⊢
  have hf3 : Fresh w2 w3 := by rw [← hw3]; exact (Keep.refl _ _).alloc _
  have b4 := row_fresh b3 hf3
  have b5 : w3.heap[h]? = some (.cells #[.bool neg', .int .i8 s, .int .u64 c] 59 (0, 0)) := by rw [← hw3, hh]; exact heap_alloc_new w2 _
  have p0 := row_cell b4 0
  have p1 := row_cell b4 1
  have p2 := row_cell b4 2
  simp at p0 p1 p2
  have q0 : w3.frozen? ⟨g + 1, 0, none⟩ = false := frozen_of_row _ _ _ _ _ b4
  have q1 : w3.frozen? ⟨g + 1, 1, none⟩ = false := frozen_of_row _ _ _ _ _ b4
  have q2 : w3.frozen? ⟨g + 1, 2, none⟩ = false := frozen_of_row _ _ _ _ _ b4
  have k0 := row_cell b5 0
  have k1 := row_cell b5 1
  have k2 := row_cell b5 2
  simp at k0 k1 k2
  have H_b3 := Lib.hid b3; clear b3
  have H_b4 := Lib.hid b4; clear b4
  have H_b5 := Lib.hid b5; clear b5
  have H_hh := Lib.hid hh; clear hh
  have H_hw3 := Lib.hid hw3; clear hw3
  have H_hf2 := Lib.hid hf2; clear hf2
  have H_hf3 := Lib.hid hf3; clear hf3
  have H_hneg := Lib.hid hneg; clear hneg
  go_region_held3 (fun (w' : World) => w'.cell? ⟨h, 0, none⟩ = some (.bool neg') ∧ w'.cell? ⟨h, 1, none⟩ = some (.int .i8 s) ∧ w'.cell? ⟨h, 2, none⟩ = some (.int .u64 c)) (first | exact ⟨k0, k1, k2⟩ | exact ⟨far3 (by omega) k0, far3 (by omega) k1, far3 (by omega) k2⟩) (first | fail)
  go_wp2
  refine bodyPost_ret (results_cell_tmp_row rfl _ _ (g + 1) 59 #[.bool neg', .int .i8 s, .int .u64 c] (0, 0) _ rfl (row_set (row_set (row_set H_b4.out))) Tryz.underlying59 rfl (by kernel_rfl)) rfl ?_
  exact ⟨by rfl, (Fresh.set3 (g := g + 1) (fresh_trans (fresh_trans H_hf.out H_hf2.out) H_hf3.out) (by have := H_hg.out; omega)).drew⟩

set_option maxRecDepth 20000 in
set_option maxHeartbeats 2000000 in
theorem fix_any (neg : Bool) (s c : Nat) (w : World) (hs : s ≤ 19) :
    Calls Tryz.prog 32 #[gd neg s c] w (VRet w (fx neg c s)) := by
  obtain ⟨g, hg⟩ : ∃ g, g = w.heap.size := ⟨_, rfl⟩
  have bx := boxes2 w #[.bool neg, .int .i8 s, .int .u64 c] #[.bool false, .int .u64 0, .int .i64 0] 59 24 g hg
  have H_bx := Lib.hid bx; clear bx
  go_enter Tryz.func32, Tryz.ntmps32
  go_wp2_with (fail)
  generalize hw1 : (w.alloc _).alloc _ = w1
  rw [← hg]
  obtain ⟨b1, b2, hf⟩ := H_bx.out w1 hw1
  have k0 := row_cell b1 0
  have k1 := row_cell b1 1
  have k2 := row_cell b1 2
  simp at k0 k1 k2
  have H_b1 := Lib.hid b1; clear b1
  have H_b2 := Lib.hid b2; clear b2
  have H_hf := Lib.hid hf; clear hf
  have H_hw1 := Lib.hid hw1; clear hw1
  have H_hg := Lib.hid hg; clear hg
  go_region_held3 (fun (w' : World) => w'.cell? ⟨g, 0, none⟩ = some (.bool neg) ∧ w'.cell? ⟨g, 1, none⟩ = some (.int .i8 s) ∧ w'.cell? ⟨g, 2, none⟩ = some (.int .u64 c)) (first | exact ⟨k0, k1, k2⟩ | exact ⟨m0, m1, m2⟩ | exact ⟨n0, n1, n2⟩ | exact ⟨o0, o1, o2⟩ | exact ⟨far3 (by omega) o0, far3 (by omega) o1, far3 (by omega) o2⟩) (first
    | (go_at_call 60; (with_reducible refine (IsNeg_any neg s c _).mono ?_); rintro e w2 ⟨rfl, r⟩; have hf0 : Fresh w1 w2 := (by first | exact r | exact r.of_drew | exact r.of_drewN); have m0 := cell_fresh k0 hf0; have m1 := cell_fresh k1 hf0; have m2 := cell_fresh k2 hf0; have H_hf0 := Lib.hid hf0; clear hf0 r)
    | (go_at_call 61; (with_reducible refine (Coef_any neg s c _).mono ?_); rintro e w3 ⟨rfl, r⟩; have hf1 : Fresh w2 w3 := r; have n0 := cell_fresh m0 hf1; have n1 := cell_fresh m1 hf1; have n2 := cell_fresh m2 hf1; have H_hf1 := Lib.hid hf1; clear hf1 r)
    | (go_at_call 62; (with_reducible refine (Scale_any neg s c _ hs).mono ?_); rintro e w4 ⟨rfl, r⟩; have hf2 : Fresh w3 w4 := r; have o0 := cell_fresh n0 hf2; have o1 := cell_fresh n1 hf2; have o2 := cell_fresh n2 hf2; have hfa : Fresh w1 w4 := fresh_trans (fresh_trans (H_hf0.out) H_hf1.out) hf2; have b4 := row_fresh H_b2.out hfa; have p0 := row_cell b4 0; have p1 := row_cell b4 1; have p2 := row_cell b4 2; simp at p0 p1 p2; have q0 : w4.frozen? ⟨g + 1, 0, none⟩ = false := frozen_of_row _ _ _ _ _ b4; have q1 : w4.frozen? ⟨g + 1, 1, none⟩ = false := frozen_of_row _ _ _ _ _ b4; have q2 : w4.frozen? ⟨g + 1, 2, none⟩ = false := frozen_of_row _ _ _ _ _ b4; have H_hfa := Lib.hid hfa; have H_b4 := Lib.hid b4; clear hfa b4; have H_hf2 := Lib.hid hf2; clear hf2 r))
  go_wp2
  refine bodyPost_ret (results_cell_row rfl _ _ (g + 1) 24 #[.bool neg, .int .u64 c, .int .i64 s] (0, 0) _ rfl (row_set (row_set (row_set H_b4.out))) Tryz.underlying24 rfl (by kernel_rfl)) rfl ?_
  exact ⟨rfl, (fresh_trans H_hf.out H_hfa.out).set3 (by have := H_hg.out; omega)⟩

set_option maxRecDepth 20000 in
set_option maxHeartbeats 2000000 in
theorem Neg_any (neg : Bool) (s c : Nat) (w : World) (hs : s ≤ 19) :
    Calls Tryz.prog 33 #[gd neg s c] w (VRet w (gd (!neg && decide (0 < c)) s c)) := by
  obtain ⟨g, hg⟩ : ∃ g, g = w.heap.size := ⟨_, rfl⟩
  have bx := boxes2 w #[.bool neg, .int .i8 s, .int .u64 c] #[.bool false, .int .i8 0, .int .u64 0] 59 59 g hg
  have H_bx := Lib.hid bx; clear bx
  go_enter Tryz.func33, Tryz.ntmps33
  go_wp2_with (fail)
  generalize hw1 : (w.alloc _).alloc _ = w1
  rw [← hg]
  obtain ⟨b1, b2, hf⟩ := H_bx.out w1 hw1
  have k0 := row_cell b1 0
  have k1 := row_cell b1 1
  have k2 := row_cell b1 2
  simp at k0 k1 k2
  have H_b1 := Lib.hid b1; clear b1
  have H_b2 := Lib.hid b2; clear b2
  have H_hf := Lib.hid hf; clear hf
  have H_hw1 := Lib.hid hw1; clear hw1
  have H_hg := Lib.hid hg; clear hg
  go_region_held3 (fun (w' : World) => w'.cell? ⟨g, 0, none⟩ = some (.bool neg) ∧ w'.cell? ⟨g, 1, none⟩ = some (.int .i8 s) ∧ w'.cell? ⟨g, 2, none⟩ = some (.int .u64 c)) (first | exact ⟨k0, k1, k2⟩ | exact ⟨m0, m1, m2⟩ | exact ⟨n0, n1, n2⟩ | exact ⟨o0, o1, o2⟩ | exact ⟨far3 (by omega) o0, far3 (by omega) o1, far3 (by omega) o2⟩) (first
    | (go_at_call 60; (with_reducible refine (IsNeg_any neg s c _).mono ?_); rintro e w2 ⟨rfl, r⟩; have hf0 : Fresh w1 w2 := (by first | exact r | exact r.of_drew | exact r.of_drewN); have m0 := cell_fresh k0 hf0; have m1 := cell_fresh k1 hf0; have m2 := cell_fresh k2 hf0; have H_hf0 := Lib.hid hf0; clear hf0 r)
    | (go_at_call 62; (with_reducible refine (Scale_any neg s c _ hs).mono ?_); rintro e w3 ⟨rfl, r⟩; have hf1 : Fresh w2 w3 := r; have n0 := cell_fresh m0 hf1; have n1 := cell_fresh m1 hf1; have n2 := cell_fresh m2 hf1; have H_hf1 := Lib.hid hf1; clear hf1 r)
    | (go_at_call 63; (with_reducible refine (newUnsafe_any _ s c _ hs).mono ?_); rintro e w4 ⟨rfl, r⟩; have hf2 : Fresh w3 w4 := r; have o0 := cell_fresh n0 hf2; have o1 := cell_fresh n1 hf2; have o2 := cell_fresh n2 hf2; have hfa : Fresh w1 w4 := fresh_trans (fresh_trans (H_hf0.out) H_hf1.out) hf2; have b4 := row_fresh H_b2.out hfa; have p0 := row_cell b4 0; have p1 := row_cell b4 1; have p2 := row_cell b4 2; simp at p0 p1 p2; have q0 : w4.frozen? ⟨g + 1, 0, none⟩ = false := frozen_of_row _ _ _ _ _ b4; have q1 : w4.frozen? ⟨g + 1, 1, none⟩ = false := frozen_of_row _ _ _ _ _ b4; have q2 : w4.frozen? ⟨g + 1, 2, none⟩ = false := frozen_of_row _ _ _ _ _ b4; have H_hfa := Lib.hid hfa; have H_b4 := Lib.hid b4; clear hfa b4; have H_hf2 := Lib.hid hf2; clear hf2 r))
  go_wp2
  refine bodyPost_ret (results_cell_row rfl _ _ (g + 1) 59 #[.bool (!neg && decide (0 < c)), .int .i8 s, .int .u64 c] (0, 0) _ rfl (row_set (row_set (row_set H_b4.out))) Tryz.underlying59 rfl (by kernel_rfl)) rfl ?_
  exact ⟨rfl, (fresh_trans H_hf.out H_hfa.out).set3 (by have := H_hg.out; omega)⟩

set_option maxRecDepth 20000 in
set_option maxHeartbeats 2000000 in
theorem Abs_any (neg : Bool) (s c : Nat) (w : World) (hs : s ≤ 19) :
    Calls Tryz.prog 35 #[gd neg s c] w (VRet w (gd (false && decide (0 < c)) s c)) := by
  obtain ⟨g, hg⟩ : ∃ g, g = w.heap.size := ⟨_, rfl⟩
  have bx := boxes2 w #[.bool neg, .int .i8 s, .int .u64 c] #[.bool false, .int .i8 0, .int .u64 0] 59 59 g hg
  have H_bx := Lib.hid bx; clear bx
  go_enter Tryz.func35, Tryz.ntmps35
  go_wp2_with (fail)
  generalize hw1 : (w.alloc _).alloc _ = w1
  rw [← hg]
  obtain ⟨b1, b2, hf⟩ := H_bx.out w1 hw1
  have k0 := row_cell b1 0
  have k1 := row_cell b1 1
  have k2 := row_cell b1 2
  simp at k0 k1 k2
  have H_b1 := Lib.hid b1; clear b1
  have H_b2 := Lib.hid b2; clear b2
  have H_hf := Lib.hid hf; clear hf
  have H_hw1 := Lib.hid hw1; clear hw1
  have H_hg := Lib.hid hg; clear hg
  go_region_held3 (fun (w' : World) => w'.cell? ⟨g, 0, none⟩ = some (.bool neg) ∧ w'.cell? ⟨g, 1, none⟩ = some (.int .i8 s) ∧ w'.cell? ⟨g, 2, none⟩ = some (.int .u64 c)) (first | exact ⟨k0, k1, k2⟩ | exact ⟨m0, m1, m2⟩ | exact ⟨n0, n1, n2⟩ | exact ⟨far3 (by omega) n0, far3 (by omega) n1, far3 (by omega) n2⟩) (first
    | (go_at_call 62; (with_reducible refine (Scale_any neg s c _ hs).mono ?_); rintro e w2 ⟨rfl, r⟩; have hf0 : Fresh w1 w2 := (by first | exact r | exact r.of_drew | exact r.of_drewN); have m0 := cell_fresh k0 hf0; have m1 := cell_fresh k1 hf0; have m2 := cell_fresh k2 hf0; have H_hf0 := Lib.hid hf0; clear hf0 r)
    | (go_at_call 63; (with_reducible refine (newUnsafe_any _ s c _ hs).mono ?_); rintro e w3 ⟨rfl, r⟩; have hf1 : Fresh w2 w3 := r; have n0 := cell_fresh m0 hf1; have n1 := cell_fresh m1 hf1; have n2 := cell_fresh m2 hf1; have hfa : Fresh w1 w3 := fresh_trans (H_hf0.out) hf1; have b4 := row_fresh H_b2.out hfa; have p0 := row_cell b4 0; have p1 := row_cell b4 1; have p2 := row_cell b4 2; simp at p0 p1 p2; have q0 : w3.frozen? ⟨g + 1, 0, none⟩ = false := frozen_of_row _ _ _ _ _ b4; have q1 : w3.frozen? ⟨g + 1, 1, none⟩ = false := frozen_of_row _ _ _ _ _ b4; have q2 : w3.frozen? ⟨g + 1, 2, none⟩ = false := frozen_of_row _ _ _ _ _ b4; have H_hfa := Lib.hid hfa; have H_b4 := Lib.hid b4; clear hfa b4; have H_hf1 := Lib.hid hf1; clear hf1 r))
  go_wp2
  refine bodyPost_ret (results_cell_row rfl _ _ (g + 1) 59 #[.bool (false && decide (0 < c)), .int .i8 s, .int .u64 c] (0, 0) _ rfl (row_set (row_set (row_set H_b4.out))) Tryz.underlying59 rfl (by kernel_rfl)) rfl ?_
  exact ⟨rfl, (fresh_trans H_hf.out H_hfa.out).set3 (by have := H_hg.out; omega)⟩

end Go.Proofs.YthemaneoighaoaaGreatDoor
