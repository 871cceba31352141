/- The contracts of govalues' decimals: CopySign. -/
import Derived.Test.YthemaneoighaoaaGreatDoorGvE
namespace Go.Proofs.YthemaneoighaoaaGreatDoor
open Go.RowKit

set_option maxRecDepth 20000 in
set_option maxHeartbeats 2000000 in
theorem CopySign_ff (s c s2 c2 : Nat) (w : World) (_ : s ≤ 19) (_ : s2 ≤ 19) :
    Calls Tryz.prog 37 #[gd false s c, gd false s2 c2] w (VRet w (gd false s c)) := by
  obtain ⟨g, hg⟩ : ∃ g, g = w.heap.size := ⟨_, rfl⟩
  have bx := boxes3 w #[.bool false, .int .i8 s, .int .u64 c] #[.bool false, .int .i8 s2, .int .u64 c2] #[.bool false, .int .i8 0, .int .u64 0] 59 59 59 g hg
  have H_bx := Lib.hid bx; clear bx
  go_enter Tryz.func37, Tryz.ntmps37
  go_wp2_with (fail)
  generalize hw1 : ((w.alloc _).alloc _).alloc _ = w1
  rw [← hg]
  obtain ⟨b1, b2, b3, hf, hgs⟩ := H_bx.out w1 hw1
  have k0 := row_cell b1 0
  have k1 := row_cell b1 1
  have k2 := row_cell b1 2
  have k3 := row_cell b2 0
  have k4 := row_cell b2 1
  have k5 := row_cell b2 2
  simp at k0 k1 k2 k3 k4 k5
  have H_b1 := Lib.hid b1; clear b1
  have H_b2 := Lib.hid b2; clear b2
  have H_b3 := Lib.hid b3; clear b3
  have H_hf := Lib.hid hf; clear hf
  have H_hw1 := Lib.hid hw1; clear hw1
  have H_hg := Lib.hid hg; clear hg
  have H_hgs := Lib.hid hgs; clear hgs
  go_region_held3 (fun (w' : World) => w'.cell? ⟨g, 0, none⟩ = some (.bool false) ∧ w'.cell? ⟨g, 1, none⟩ = some (.int .i8 s) ∧ w'.cell? ⟨g, 2, none⟩ = some (.int .u64 c) ∧ w'.cell? ⟨g + 1, 0, none⟩ = some (.bool false) ∧ w'.cell? ⟨g + 1, 1, none⟩ = some (.int .i8 s2) ∧ w'.cell? ⟨g + 1, 2, none⟩ = some (.int .u64 c2)) (first | exact ⟨k0, k1, k2, k3, k4, k5⟩ | exact ⟨m0, m1, m2, m3, m4, m5⟩ | exact ⟨n0, n1, n2, n3, n4, n5⟩) (first
    | (go_at_call 60; (with_reducible refine (IsNeg_any false s c _).mono ?_); rintro e w2 ⟨rfl, r⟩; have hf0 : Fresh w1 w2 := (by first | exact r | exact r.of_drew | exact r.of_drewN); have m0 := cell_fresh k0 hf0; have m1 := cell_fresh k1 hf0; have m2 := cell_fresh k2 hf0; have m3 := cell_fresh k3 hf0; have m4 := cell_fresh k4 hf0; have m5 := cell_fresh k5 hf0; have H_hf0 := Lib.hid hf0; clear hf0 r)
    | (go_at_call 60; (with_reducible refine (IsNeg_any false s2 c2 _).mono ?_); rintro e w3 ⟨rfl, r⟩; have n0 := cell_fresh m0 r; have n1 := cell_fresh m1 r; have n2 := cell_fresh m2 r; have n3 := cell_fresh m3 r; have n4 := cell_fresh m4 r; have n5 := cell_fresh m5 r; have hfa := fresh_trans H_hf0.out r; have b4 := row_fresh H_b3.out hfa; have p0 := row_cell b4 0; have p1 := row_cell b4 1; have p2 := row_cell b4 2; simp at p0 p1 p2; have q0 : w3.frozen? ⟨g + 1 + 1, 0, none⟩ = false := frozen_of_row _ _ _ _ _ b4; have q1 : w3.frozen? ⟨g + 1 + 1, 1, none⟩ = false := frozen_of_row _ _ _ _ _ b4; have q2 : w3.frozen? ⟨g + 1 + 1, 2, none⟩ = false := frozen_of_row _ _ _ _ _ b4; have H_hfa := Lib.hid hfa; have H_b4 := Lib.hid b4; clear hfa b4 r))
  go_wp2_with (fail)
  refine bodyPost_ret (results_cell_row rfl _ _ (g + 1 + 1) 59 #[.bool false, .int .i8 s, .int .u64 c] (0, 0) _ rfl (row_set (row_set (row_set H_b4.out))) Tryz.underlying59 rfl (by kernel_rfl)) rfl ?_
  exact ⟨rfl, (fresh_trans H_hf.out H_hfa.out).set3 (by have := H_hg.out; omega)⟩

set_option maxRecDepth 20000 in
set_option maxHeartbeats 2000000 in
theorem CopySign_tt (s c s2 c2 : Nat) (w : World) (hs : s ≤ 19) (hs2 : s2 ≤ 19) :
    Calls Tryz.prog 37 #[gd true s c, gd true s2 c2] w (VRet w (gd true s c)) := by
  obtain ⟨g, hg⟩ : ∃ g, g = w.heap.size := ⟨_, rfl⟩
  have bx := boxes3 w #[.bool true, .int .i8 s, .int .u64 c] #[.bool true, .int .i8 s2, .int .u64 c2] #[.bool false, .int .i8 0, .int .u64 0] 59 59 59 g hg
  have H_bx := Lib.hid bx; clear bx
  go_enter Tryz.func37, Tryz.ntmps37
  go_wp2_with (fail)
  generalize hw1 : ((w.alloc _).alloc _).alloc _ = w1
  rw [← hg]
  obtain ⟨b1, b2, b3, hf, hgs⟩ := H_bx.out w1 hw1
  have k0 := row_cell b1 0
  have k1 := row_cell b1 1
  have k2 := row_cell b1 2
  have k3 := row_cell b2 0
  have k4 := row_cell b2 1
  have k5 := row_cell b2 2
  simp at k0 k1 k2 k3 k4 k5
  have H_b1 := Lib.hid b1; clear b1
  have H_b2 := Lib.hid b2; clear b2
  have H_b3 := Lib.hid b3; clear b3
  have H_hf := Lib.hid hf; clear hf
  have H_hw1 := Lib.hid hw1; clear hw1
  have H_hg := Lib.hid hg; clear hg
  have H_hgs := Lib.hid hgs; clear hgs
  go_region_held3 (fun (w' : World) => w'.cell? ⟨g, 0, none⟩ = some (.bool true) ∧ w'.cell? ⟨g, 1, none⟩ = some (.int .i8 s) ∧ w'.cell? ⟨g, 2, none⟩ = some (.int .u64 c) ∧ w'.cell? ⟨g + 1, 0, none⟩ = some (.bool true) ∧ w'.cell? ⟨g + 1, 1, none⟩ = some (.int .i8 s2) ∧ w'.cell? ⟨g + 1, 2, none⟩ = some (.int .u64 c2)) (first | exact ⟨k0, k1, k2, k3, k4, k5⟩ | exact ⟨m0, m1, m2, m3, m4, m5⟩ | exact ⟨n0, n1, n2, n3, n4, n5⟩) (first
    | (go_at_call 60; (with_reducible refine (IsNeg_any true s c _).mono ?_); rintro e w2 ⟨rfl, r⟩; have hf0 : Fresh w1 w2 := (by first | exact r | exact r.of_drew | exact r.of_drewN); have m0 := cell_fresh k0 hf0; have m1 := cell_fresh k1 hf0; have m2 := cell_fresh k2 hf0; have m3 := cell_fresh k3 hf0; have m4 := cell_fresh k4 hf0; have m5 := cell_fresh k5 hf0; have H_hf0 := Lib.hid hf0; clear hf0 r)
    | (go_at_call 60; (with_reducible refine (IsNeg_any true s2 c2 _).mono ?_); rintro e w3 ⟨rfl, r⟩; have n0 := cell_fresh m0 r; have n1 := cell_fresh m1 r; have n2 := cell_fresh m2 r; have n3 := cell_fresh m3 r; have n4 := cell_fresh m4 r; have n5 := cell_fresh m5 r; have hfa := fresh_trans H_hf0.out r; have b4 := row_fresh H_b3.out hfa; have p0 := row_cell b4 0; have p1 := row_cell b4 1; have p2 := row_cell b4 2; simp at p0 p1 p2; have q0 : w3.frozen? ⟨g + 1 + 1, 0, none⟩ = false := frozen_of_row _ _ _ _ _ b4; have q1 : w3.frozen? ⟨g + 1 + 1, 1, none⟩ = false := frozen_of_row _ _ _ _ _ b4; have q2 : w3.frozen? ⟨g + 1 + 1, 2, none⟩ = false := frozen_of_row _ _ _ _ _ b4; have H_hfa := Lib.hid hfa; have H_b4 := Lib.hid b4; clear hfa b4 r))
  go_wp2_with (fail)
  refine bodyPost_ret (results_cell_row rfl _ _ (g + 1 + 1) 59 #[.bool true, .int .i8 s, .int .u64 c] (0, 0) _ rfl (row_set (row_set (row_set H_b4.out))) Tryz.underlying59 rfl (by kernel_rfl)) rfl ?_
  exact ⟨rfl, (fresh_trans H_hf.out H_hfa.out).set3 (by have := H_hg.out; omega)⟩

set_option maxRecDepth 20000 in
set_option maxHeartbeats 2000000 in
theorem CopySign_ft (s c s2 c2 : Nat) (w : World) (hs : s ≤ 19) (hs2 : s2 ≤ 19) :
    Calls Tryz.prog 37 #[gd false s c, gd true s2 c2] w (VRet w (gd (!false && decide (0 < c)) s c)) := by
  obtain ⟨g, hg⟩ : ∃ g, g = w.heap.size := ⟨_, rfl⟩
  have bx := boxes3 w #[.bool false, .int .i8 s, .int .u64 c] #[.bool true, .int .i8 s2, .int .u64 c2] #[.bool false, .int .i8 0, .int .u64 0] 59 59 59 g hg
  have H_bx := Lib.hid bx; clear bx
  go_enter Tryz.func37, Tryz.ntmps37
  go_wp2_with (fail)
  generalize hw1 : ((w.alloc _).alloc _).alloc _ = w1
  rw [← hg]
  obtain ⟨b1, b2, b3, hf, hgs⟩ := H_bx.out w1 hw1
  have k0 := row_cell b1 0
  have k1 := row_cell b1 1
  have k2 := row_cell b1 2
  have k3 := row_cell b2 0
  have k4 := row_cell b2 1
  have k5 := row_cell b2 2
  simp at k0 k1 k2 k3 k4 k5
  have H_b1 := Lib.hid b1; clear b1
  have H_b2 := Lib.hid b2; clear b2
  have H_b3 := Lib.hid b3; clear b3
  have H_hf := Lib.hid hf; clear hf
  have H_hw1 := Lib.hid hw1; clear hw1
  have H_hg := Lib.hid hg; clear hg
  have H_hgs := Lib.hid hgs; clear hgs
  go_region_held3 (fun (w' : World) => w'.cell? ⟨g, 0, none⟩ = some (.bool false) ∧ w'.cell? ⟨g, 1, none⟩ = some (.int .i8 s) ∧ w'.cell? ⟨g, 2, none⟩ = some (.int .u64 c) ∧ w'.cell? ⟨g + 1, 0, none⟩ = some (.bool true) ∧ w'.cell? ⟨g + 1, 1, none⟩ = some (.int .i8 s2) ∧ w'.cell? ⟨g + 1, 2, none⟩ = some (.int .u64 c2)) (first | exact ⟨k0, k1, k2, k3, k4, k5⟩ | exact ⟨m0, m1, m2, m3, m4, m5⟩ | exact ⟨n0, n1, n2, n3, n4, n5⟩) (first
    | (go_at_call 60; (with_reducible refine (IsNeg_any false s c _).mono ?_); rintro e w2 ⟨rfl, r⟩; have hf0 : Fresh w1 w2 := (by first | exact r | exact r.of_drew | exact r.of_drewN); have m0 := cell_fresh k0 hf0; have m1 := cell_fresh k1 hf0; have m2 := cell_fresh k2 hf0; have m3 := cell_fresh k3 hf0; have m4 := cell_fresh k4 hf0; have m5 := cell_fresh k5 hf0; have H_hf0 := Lib.hid hf0; clear hf0 r)
    | (go_at_call 60; (with_reducible refine (IsNeg_any true s2 c2 _).mono ?_); rintro e w3 ⟨rfl, r⟩; have n0 := cell_fresh m0 r; have n1 := cell_fresh m1 r; have n2 := cell_fresh m2 r; have n3 := cell_fresh m3 r; have n4 := cell_fresh m4 r; have n5 := cell_fresh m5 r; have hfa := fresh_trans H_hf0.out r; have b4 := row_fresh H_b3.out hfa; have p0 := row_cell b4 0; have p1 := row_cell b4 1; have p2 := row_cell b4 2; simp at p0 p1 p2; have q0 : w3.frozen? ⟨g + 1 + 1, 0, none⟩ = false := frozen_of_row _ _ _ _ _ b4; have q1 : w3.frozen? ⟨g + 1 + 1, 1, none⟩ = false := frozen_of_row _ _ _ _ _ b4; have q2 : w3.frozen? ⟨g + 1 + 1, 2, none⟩ = false := frozen_of_row _ _ _ _ _ b4; have H_hfa := Lib.hid hfa; have H_b4 := Lib.hid b4; clear hfa b4 r))
  go_wp2_with (fail)
  refine (Neg_any false s c _ hs).mono ?_
  rintro e w4 ⟨rfl, r⟩
  have b5 := row_fresh H_b4.out r
  clear p0 p1 p2 q0 q1 q2
  have p0 := row_cell b5 0
  have p1 := row_cell b5 1
  have p2 := row_cell b5 2
  simp at p0 p1 p2
  have q0 : w4.frozen? ⟨g + 1 + 1, 0, none⟩ = false := frozen_of_row _ _ _ _ _ b5
  have q1 : w4.frozen? ⟨g + 1 + 1, 1, none⟩ = false := frozen_of_row _ _ _ _ _ b5
  have q2 : w4.frozen? ⟨g + 1 + 1, 2, none⟩ = false := frozen_of_row _ _ _ _ _ b5
  have H_b5 := Lib.hid b5; clear b5
  have H_r := Lib.hid r; clear r
  go_wp2_with (fail)
  refine bodyPost_ret (results_cell_row rfl _ _ (g + 1 + 1) 59 #[.bool (!false && decide (0 < c)), .int .i8 s, .int .u64 c] (0, 0) _ rfl (row_set (row_set (row_set H_b5.out))) Tryz.underlying59 rfl (by kernel_rfl)) rfl ?_
  exact ⟨rfl, (fresh_trans (fresh_trans H_hf.out H_hfa.out) H_r.out).set3 (by have := H_hg.out; omega)⟩

set_option maxRecDepth 20000 in
set_option maxHeartbeats 2000000 in
theorem CopySign_tf (s c s2 c2 : Nat) (w : World) (hs : s ≤ 19) (hs2 : s2 ≤ 19) :
    Calls Tryz.prog 37 #[gd true s c, gd false s2 c2] w (VRet w (gd (!true && decide (0 < c)) s c)) := by
  obtain ⟨g, hg⟩ : ∃ g, g = w.heap.size := ⟨_, rfl⟩
  have bx := boxes3 w #[.bool true, .int .i8 s, .int .u64 c] #[.bool false, .int .i8 s2, .int .u64 c2] #[.bool false, .int .i8 0, .int .u64 0] 59 59 59 g hg
  have H_bx := Lib.hid bx; clear bx
  go_enter Tryz.func37, Tryz.ntmps37
  go_wp2_with (fail)
  generalize hw1 : ((w.alloc _).alloc _).alloc _ = w1
  rw [← hg]
  obtain ⟨b1, b2, b3, hf, hgs⟩ := H_bx.out w1 hw1
  have k0 := row_cell b1 0
  have k1 := row_cell b1 1
  have k2 := row_cell b1 2
  have k3 := row_cell b2 0
  have k4 := row_cell b2 1
  have k5 := row_cell b2 2
  simp at k0 k1 k2 k3 k4 k5
  have H_b1 := Lib.hid b1; clear b1
  have H_b2 := Lib.hid b2; clear b2
  have H_b3 := Lib.hid b3; clear b3
  have H_hf := Lib.hid hf; clear hf
  have H_hw1 := Lib.hid hw1; clear hw1
  have H_hg := Lib.hid hg; clear hg
  have H_hgs := Lib.hid hgs; clear hgs
  go_region_held3 (fun (w' : World) => w'.cell? ⟨g, 0, none⟩ = some (.bool true) ∧ w'.cell? ⟨g, 1, none⟩ = some (.int .i8 s) ∧ w'.cell? ⟨g, 2, none⟩ = some (.int .u64 c) ∧ w'.cell? ⟨g + 1, 0, none⟩ = some (.bool false) ∧ w'.cell? ⟨g + 1, 1, none⟩ = some (.int .i8 s2) ∧ w'.cell? ⟨g + 1, 2, none⟩ = some (.int .u64 c2)) (first | exact ⟨k0, k1, k2, k3, k4, k5⟩ | exact ⟨m0, m1, m2, m3, m4, m5⟩ | exact ⟨n0, n1, n2, n3, n4, n5⟩) (first
    | (go_at_call 60; (with_reducible refine (IsNeg_any true s c _).mono ?_); rintro e w2 ⟨rfl, r⟩; have hf0 : Fresh w1 w2 := (by first | exact r | exact r.of_drew | exact r.of_drewN); have m0 := cell_fresh k0 hf0; have m1 := cell_fresh k1 hf0; have m2 := cell_fresh k2 hf0; have m3 := cell_fresh k3 hf0; have m4 := cell_fresh k4 hf0; have m5 := cell_fresh k5 hf0; have H_hf0 := Lib.hid hf0; clear hf0 r)
    | (go_at_call 60; (with_reducible refine (IsNeg_any false s2 c2 _).mono ?_); rintro e w3 ⟨rfl, r⟩; have n0 := cell_fresh m0 r; have n1 := cell_fresh m1 r; have n2 := cell_fresh m2 r; have n3 := cell_fresh m3 r; have n4 := cell_fresh m4 r; have n5 := cell_fresh m5 r; have hfa := fresh_trans H_hf0.out r; have b4 := row_fresh H_b3.out hfa; have p0 := row_cell b4 0; have p1 := row_cell b4 1; have p2 := row_cell b4 2; simp at p0 p1 p2; have q0 : w3.frozen? ⟨g + 1 + 1, 0, none⟩ = false := frozen_of_row _ _ _ _ _ b4; have q1 : w3.frozen? ⟨g + 1 + 1, 1, none⟩ = false := frozen_of_row _ _ _ _ _ b4; have q2 : w3.frozen? ⟨g + 1 + 1, 2, none⟩ = false := frozen_of_row _ _ _ _ _ b4; have H_hfa := Lib.hid hfa; have H_b4 := Lib.hid b4; clear hfa b4 r))
  go_wp2_with (fail)
  refine (Neg_any true s c _ hs).mono ?_
  rintro e w4 ⟨rfl, r⟩
  have b5 := row_fresh H_b4.out r
  clear p0 p1 p2 q0 q1 q2
  have p0 := row_cell b5 0
  have p1 := row_cell b5 1
  have p2 := row_cell b5 2
  simp at p0 p1 p2
  have q0 : w4.frozen? ⟨g + 1 + 1, 0, none⟩ = false := frozen_of_row _ _ _ _ _ b5
  have q1 : w4.frozen? ⟨g + 1 + 1, 1, none⟩ = false := frozen_of_row _ _ _ _ _ b5
  have q2 : w4.frozen? ⟨g + 1 + 1, 2, none⟩ = false := frozen_of_row _ _ _ _ _ b5
  have H_b5 := Lib.hid b5; clear b5
  have H_r := Lib.hid r; clear r
  go_wp2_with (fail)
  refine bodyPost_ret (results_cell_row rfl _ _ (g + 1 + 1) 59 #[.bool (!true && decide (0 < c)), .int .i8 s, .int .u64 c] (0, 0) _ rfl (row_set (row_set (row_set H_b5.out))) Tryz.underlying59 rfl (by kernel_rfl)) rfl ?_
  exact ⟨rfl, (fresh_trans (fresh_trans H_hf.out H_hfa.out) H_r.out).set3 (by have := H_hg.out; omega)⟩

theorem CopySign_any (nd ne : Bool) (s c s2 c2 : Nat) (w : World) (hs : s ≤ 19) (hs2 : s2 ≤ 19) (hcan : nd = true → 0 < c) :
    Calls Tryz.prog 37 #[gd nd s c, gd ne s2 c2] w (VRet w (gd (ne && decide (0 < c)) s c)) := by
  cases nd <;> cases ne
  · exact CopySign_ff s c s2 c2 w hs hs2
  · exact CopySign_ft s c s2 c2 w hs hs2
  · exact CopySign_tf s c s2 c2 w hs hs2
  · have := CopySign_tt s c s2 c2 w hs hs2
    rw [show (true && decide (0 < c)) = true by simpa using hcan rfl]
    exact this

end Go.Proofs.YthemaneoighaoaaGreatDoor
