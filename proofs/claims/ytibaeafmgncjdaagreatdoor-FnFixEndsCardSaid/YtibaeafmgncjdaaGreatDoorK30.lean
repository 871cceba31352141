/- The reference's order of all forms: gvTotal. -/
import Derived.Test.YtibaeafmgncjdaaGreatDoorK12
import Derived.Test.YtibaeafmgncjdaaGreatDoorK23
import Derived.Test.YtibaeafmgncjdaaGreatDoorK25
namespace Go.Proofs.YtibaeafmgncjdaaGreatDoor
open Go.RowKit

set_option maxRecDepth 20000 in
set_option maxHeartbeats 4000000 in
theorem gvTotal_m (n1 n2 : Bool) (c1 s1 c2 s2 : Nat) (w : World) (hs1 : s1 ≤ 19) (hs2 : s2 ≤ 19) (hc1 : c1 ≤ 9999999999999999999) (hc2 : c2 ≤ 9999999999999999999) (hz : zcmp n1 c1 s1 n2 c2 s2 = -1) :
    Calls Tryz.prog 37 #[fx n1 c1 s1, fx n2 c2 s2] w (VRet w (.int .i64 (ctot (zcmp n1 c1 s1 n2 c2 s2) s1 s2))) := by
  have hcmp := fun (xa xb : Value) (W : World) ha hb => FracCmp_any xa xb (zfix n1 c1) (zfix n2 c2) (10 ^ s1) (10 ^ s2) W ha hb (zfix_spow hc1) (zfix_spow hc2) (ten_spow hs1) (ten_spow hs2)
  change ∀ (xa xb : Value) (W : World) (ha : _) (hb : _), Calls Tryz.prog 19 #[xa, xb] W (IRet W (zcmp n1 c1 s1 n2 c2 s2)) at hcmp
  rw [hz] at hcmp ⊢
  rw [show ctot (-1) s1 s2 = -1 from rfl]
  clear hz
  obtain ⟨g, hg⟩ : ∃ g, g = w.heap.size := ⟨_, rfl⟩
  have bx := boxes2 w #[.bool n1, .int .u64 c1, .int .i64 s1] #[.bool n2, .int .u64 c2, .int .i64 s2] 24 24 g hg
  have H_bx := Lib.hid bx; clear bx
  have H_hcmp := Lib.hid hcmp; clear hcmp
  go_enter Tryz.func37, Tryz.ntmps37
  go_wp2_with (fail)
  generalize hw1 : (w.alloc _).alloc _ = w1
  rw [← hg]
  obtain ⟨b1, b2, hf⟩ := H_bx.out w1 hw1
  have k0 := row_cell b1 0
  have k1 := row_cell b1 1
  have k2 := row_cell b1 2
  simp at k0 k1 k2
  have k3 := row_cell b2 0
  have k4 := row_cell b2 1
  have k5 := row_cell b2 2
  simp at k3 k4 k5
  have H_b1 := Lib.hid b1; clear b1
  have H_b2 := Lib.hid b2; clear b2
  have H_hf := Lib.hid hf; clear hf
  have H_hw1 := Lib.hid hw1; clear hw1
  have H_hg := Lib.hid hg; clear hg
  go_region_held3 (fun (w' : World) => w'.cell? ⟨g, 0, none⟩ = some (.bool n1) ∧ w'.cell? ⟨g, 1, none⟩ = some (.int .u64 c1) ∧ w'.cell? ⟨g, 2, none⟩ = some (.int .i64 s1) ∧ w'.cell? ⟨g + 1, 0, none⟩ = some (.bool n2) ∧ w'.cell? ⟨g + 1, 1, none⟩ = some (.int .u64 c2) ∧ w'.cell? ⟨g + 1, 2, none⟩ = some (.int .i64 s2)) (first | exact ⟨k0, k1, k2, k3, k4, k5⟩ | exact ⟨m0, m1, m2, m3, m4, m5⟩ | exact ⟨o0, o1, o2, o3, o4, o5⟩ | exact ⟨u0, u1, u2, u3, u4, u5⟩) (first
    | (go_at_call 14; (with_reducible refine (FixNum_any n1 c1 s1 _ hs1 hc1).mono ?_); rintro e w2 ⟨x1, rfl, hx1, r⟩; have hy : Fresh w1 w2 := (by first | exact r | exact r.of_drew | exact r.of_drewN); have m0 := cell_fresh k0 hy; have m1 := cell_fresh k1 hy; have m2 := cell_fresh k2 hy; have m3 := cell_fresh k3 hy; have m4 := cell_fresh k4 hy; have m5 := cell_fresh k5 hy; have H_x1 := Lib.hid hx1; have H_f2 := Lib.hid hy; clear hx1 r hy)
    | (go_at_call 14; (with_reducible refine (FixNum_any n2 c2 s2 _ hs2 hc2).mono ?_); rintro e w3 ⟨x2, rfl, hx2, r⟩; have o0 := cell_fresh m0 r; have o1 := cell_fresh m1 r; have o2 := cell_fresh m2 r; have o3 := cell_fresh m3 r; have o4 := cell_fresh m4 r; have o5 := cell_fresh m5 r; have H_x2 := Lib.hid hx2; have H_f3 := Lib.hid r; clear hx2 r)
    | (go_at_call 19; (with_reducible refine (H_hcmp.out _ _ _ (H_x1.out.fresh H_f3.out) H_x2.out).mono ?_); rintro e w4 ⟨rfl, r⟩; have u0 := cell_fresh o0 r; have u1 := cell_fresh o1 r; have u2 := cell_fresh o2 r; have u3 := cell_fresh o3 r; have u4 := cell_fresh o4 r; have u5 := cell_fresh o5 r; have H_f4 := Lib.hid r; clear r))
  go_wp2_with (fail)
  go_ret
  exact ⟨rfl, fresh_trans (fresh_trans (fresh_trans H_hf.out H_f2.out) H_f3.out) H_f4.out⟩

set_option maxRecDepth 20000 in
set_option maxHeartbeats 4000000 in
theorem gvTotal_p (n1 n2 : Bool) (c1 s1 c2 s2 : Nat) (w : World) (hs1 : s1 ≤ 19) (hs2 : s2 ≤ 19) (hc1 : c1 ≤ 9999999999999999999) (hc2 : c2 ≤ 9999999999999999999) (hz : zcmp n1 c1 s1 n2 c2 s2 = 1) :
    Calls Tryz.prog 37 #[fx n1 c1 s1, fx n2 c2 s2] w (VRet w (.int .i64 (ctot (zcmp n1 c1 s1 n2 c2 s2) s1 s2))) := by
  have hcmp := fun (xa xb : Value) (W : World) ha hb => FracCmp_any xa xb (zfix n1 c1) (zfix n2 c2) (10 ^ s1) (10 ^ s2) W ha hb (zfix_spow hc1) (zfix_spow hc2) (ten_spow hs1) (ten_spow hs2)
  change ∀ (xa xb : Value) (W : World) (ha : _) (hb : _), Calls Tryz.prog 19 #[xa, xb] W (IRet W (zcmp n1 c1 s1 n2 c2 s2)) at hcmp
  rw [hz] at hcmp ⊢
  rw [show ctot 1 s1 s2 = 1 from rfl]
  clear hz
  obtain ⟨g, hg⟩ : ∃ g, g = w.heap.size := ⟨_, rfl⟩
  have bx := boxes2 w #[.bool n1, .int .u64 c1, .int .i64 s1] #[.bool n2, .int .u64 c2, .int .i64 s2] 24 24 g hg
  have H_bx := Lib.hid bx; clear bx
  have H_hcmp := Lib.hid hcmp; clear hcmp
  go_enter Tryz.func37, Tryz.ntmps37
  go_wp2_with (fail)
  generalize hw1 : (w.alloc _).alloc _ = w1
  rw [← hg]
  obtain ⟨b1, b2, hf⟩ := H_bx.out w1 hw1
  have k0 := row_cell b1 0
  have k1 := row_cell b1 1
  have k2 := row_cell b1 2
  simp at k0 k1 k2
  have k3 := row_cell b2 0
  have k4 := row_cell b2 1
  have k5 := row_cell b2 2
  simp at k3 k4 k5
  have H_b1 := Lib.hid b1; clear b1
  have H_b2 := Lib.hid b2; clear b2
  have H_hf := Lib.hid hf; clear hf
  have H_hw1 := Lib.hid hw1; clear hw1
  have H_hg := Lib.hid hg; clear hg
  go_region_held3 (fun (w' : World) => w'.cell? ⟨g, 0, none⟩ = some (.bool n1) ∧ w'.cell? ⟨g, 1, none⟩ = some (.int .u64 c1) ∧ w'.cell? ⟨g, 2, none⟩ = some (.int .i64 s1) ∧ w'.cell? ⟨g + 1, 0, none⟩ = some (.bool n2) ∧ w'.cell? ⟨g + 1, 1, none⟩ = some (.int .u64 c2) ∧ w'.cell? ⟨g + 1, 2, none⟩ = some (.int .i64 s2)) (first | exact ⟨k0, k1, k2, k3, k4, k5⟩ | exact ⟨m0, m1, m2, m3, m4, m5⟩ | exact ⟨o0, o1, o2, o3, o4, o5⟩ | exact ⟨u0, u1, u2, u3, u4, u5⟩) (first
    | (go_at_call 14; (with_reducible refine (FixNum_any n1 c1 s1 _ hs1 hc1).mono ?_); rintro e w2 ⟨x1, rfl, hx1, r⟩; have hy : Fresh w1 w2 := (by first | exact r | exact r.of_drew | exact r.of_drewN); have m0 := cell_fresh k0 hy; have m1 := cell_fresh k1 hy; have m2 := cell_fresh k2 hy; have m3 := cell_fresh k3 hy; have m4 := cell_fresh k4 hy; have m5 := cell_fresh k5 hy; have H_x1 := Lib.hid hx1; have H_f2 := Lib.hid hy; clear hx1 r hy)
    | (go_at_call 14; (with_reducible refine (FixNum_any n2 c2 s2 _ hs2 hc2).mono ?_); rintro e w3 ⟨x2, rfl, hx2, r⟩; have o0 := cell_fresh m0 r; have o1 := cell_fresh m1 r; have o2 := cell_fresh m2 r; have o3 := cell_fresh m3 r; have o4 := cell_fresh m4 r; have o5 := cell_fresh m5 r; have H_x2 := Lib.hid hx2; have H_f3 := Lib.hid r; clear hx2 r)
    | (go_at_call 19; (with_reducible refine (H_hcmp.out _ _ _ (H_x1.out.fresh H_f3.out) H_x2.out).mono ?_); rintro e w4 ⟨rfl, r⟩; have u0 := cell_fresh o0 r; have u1 := cell_fresh o1 r; have u2 := cell_fresh o2 r; have u3 := cell_fresh o3 r; have u4 := cell_fresh o4 r; have u5 := cell_fresh o5 r; have H_f4 := Lib.hid r; clear r))
  go_wp2_with (fail)
  go_ret
  exact ⟨rfl, fresh_trans (fresh_trans (fresh_trans H_hf.out H_f2.out) H_f3.out) H_f4.out⟩

set_option maxRecDepth 20000 in
set_option maxHeartbeats 4000000 in
theorem gvTotal_g (n1 n2 : Bool) (c1 s1 c2 s2 : Nat) (w : World) (hs1 : s1 ≤ 19) (hs2 : s2 ≤ 19) (hc1 : c1 ≤ 9999999999999999999) (hc2 : c2 ≤ 9999999999999999999) (hz : zcmp n1 c1 s1 n2 c2 s2 = 0 ∧ s2 < s1) :
    Calls Tryz.prog 37 #[fx n1 c1 s1, fx n2 c2 s2] w (VRet w (.int .i64 (ctot (zcmp n1 c1 s1 n2 c2 s2) s1 s2))) := by
  have hcmp := fun (xa xb : Value) (W : World) ha hb => FracCmp_any xa xb (zfix n1 c1) (zfix n2 c2) (10 ^ s1) (10 ^ s2) W ha hb (zfix_spow hc1) (zfix_spow hc2) (ten_spow hs1) (ten_spow hs2)
  change ∀ (xa xb : Value) (W : World) (ha : _) (hb : _), Calls Tryz.prog 19 #[xa, xb] W (IRet W (zcmp n1 c1 s1 n2 c2 s2)) at hcmp
  obtain ⟨hz, hlt⟩ := hz
  rw [hz] at hcmp ⊢
  rw [show ctot 0 s1 s2 = -1 by unfold ctot; rw [if_neg (by omega), if_neg (by omega), if_pos hlt]]
  have t1 : decide ((s2 : Int) < (s1 : Int)) = true := by simp; omega
  clear hz
  obtain ⟨g, hg⟩ : ∃ g, g = w.heap.size := ⟨_, rfl⟩
  have bx := boxes2 w #[.bool n1, .int .u64 c1, .int .i64 s1] #[.bool n2, .int .u64 c2, .int .i64 s2] 24 24 g hg
  have H_bx := Lib.hid bx; clear bx
  have H_hcmp := Lib.hid hcmp; clear hcmp
  go_enter Tryz.func37, Tryz.ntmps37
  go_wp2_with (fail)
  generalize hw1 : (w.alloc _).alloc _ = w1
  rw [← hg]
  obtain ⟨b1, b2, hf⟩ := H_bx.out w1 hw1
  have k0 := row_cell b1 0
  have k1 := row_cell b1 1
  have k2 := row_cell b1 2
  simp at k0 k1 k2
  have k3 := row_cell b2 0
  have k4 := row_cell b2 1
  have k5 := row_cell b2 2
  simp at k3 k4 k5
  have H_b1 := Lib.hid b1; clear b1
  have H_b2 := Lib.hid b2; clear b2
  have H_hf := Lib.hid hf; clear hf
  have H_hw1 := Lib.hid hw1; clear hw1
  have H_hg := Lib.hid hg; clear hg
  go_region_held3 (fun (w' : World) => w'.cell? ⟨g, 0, none⟩ = some (.bool n1) ∧ w'.cell? ⟨g, 1, none⟩ = some (.int .u64 c1) ∧ w'.cell? ⟨g, 2, none⟩ = some (.int .i64 s1) ∧ w'.cell? ⟨g + 1, 0, none⟩ = some (.bool n2) ∧ w'.cell? ⟨g + 1, 1, none⟩ = some (.int .u64 c2) ∧ w'.cell? ⟨g + 1, 2, none⟩ = some (.int .i64 s2)) (first | exact ⟨k0, k1, k2, k3, k4, k5⟩ | exact ⟨m0, m1, m2, m3, m4, m5⟩ | exact ⟨o0, o1, o2, o3, o4, o5⟩ | exact ⟨u0, u1, u2, u3, u4, u5⟩) (first
    | (go_at_call 14; (with_reducible refine (FixNum_any n1 c1 s1 _ hs1 hc1).mono ?_); rintro e w2 ⟨x1, rfl, hx1, r⟩; have hy : Fresh w1 w2 := (by first | exact r | exact r.of_drew | exact r.of_drewN); have m0 := cell_fresh k0 hy; have m1 := cell_fresh k1 hy; have m2 := cell_fresh k2 hy; have m3 := cell_fresh k3 hy; have m4 := cell_fresh k4 hy; have m5 := cell_fresh k5 hy; have H_x1 := Lib.hid hx1; have H_f2 := Lib.hid hy; clear hx1 r hy)
    | (go_at_call 14; (with_reducible refine (FixNum_any n2 c2 s2 _ hs2 hc2).mono ?_); rintro e w3 ⟨x2, rfl, hx2, r⟩; have o0 := cell_fresh m0 r; have o1 := cell_fresh m1 r; have o2 := cell_fresh m2 r; have o3 := cell_fresh m3 r; have o4 := cell_fresh m4 r; have o5 := cell_fresh m5 r; have H_x2 := Lib.hid hx2; have H_f3 := Lib.hid r; clear hx2 r)
    | (go_at_call 19; (with_reducible refine (H_hcmp.out _ _ _ (H_x1.out.fresh H_f3.out) H_x2.out).mono ?_); rintro e w4 ⟨rfl, r⟩; have u0 := cell_fresh o0 r; have u1 := cell_fresh o1 r; have u2 := cell_fresh o2 r; have u3 := cell_fresh o3 r; have u4 := cell_fresh o4 r; have u5 := cell_fresh o5 r; have H_f4 := Lib.hid r; clear r))
  go_wp2_with (fail)
  go_ret
  exact ⟨rfl, fresh_trans (fresh_trans (fresh_trans H_hf.out H_f2.out) H_f3.out) H_f4.out⟩

set_option maxRecDepth 20000 in
set_option maxHeartbeats 4000000 in
theorem gvTotal_l (n1 n2 : Bool) (c1 s1 c2 s2 : Nat) (w : World) (hs1 : s1 ≤ 19) (hs2 : s2 ≤ 19) (hc1 : c1 ≤ 9999999999999999999) (hc2 : c2 ≤ 9999999999999999999) (hz : zcmp n1 c1 s1 n2 c2 s2 = 0 ∧ s1 < s2) :
    Calls Tryz.prog 37 #[fx n1 c1 s1, fx n2 c2 s2] w (VRet w (.int .i64 (ctot (zcmp n1 c1 s1 n2 c2 s2) s1 s2))) := by
  have hcmp := fun (xa xb : Value) (W : World) ha hb => FracCmp_any xa xb (zfix n1 c1) (zfix n2 c2) (10 ^ s1) (10 ^ s2) W ha hb (zfix_spow hc1) (zfix_spow hc2) (ten_spow hs1) (ten_spow hs2)
  change ∀ (xa xb : Value) (W : World) (ha : _) (hb : _), Calls Tryz.prog 19 #[xa, xb] W (IRet W (zcmp n1 c1 s1 n2 c2 s2)) at hcmp
  obtain ⟨hz, hlt⟩ := hz
  rw [hz] at hcmp ⊢
  rw [show ctot 0 s1 s2 = 1 by unfold ctot; rw [if_neg (by omega), if_neg (by omega), if_neg (by omega), if_pos hlt]]
  have hn0 : ¬ s2 < s1 := by omega
  have t0 : decide ((s2 : Int) < (s1 : Int)) = false := by simp; omega
  have t1 : decide ((s1 : Int) < (s2 : Int)) = true := by simp; omega
  clear hz
  obtain ⟨g, hg⟩ : ∃ g, g = w.heap.size := ⟨_, rfl⟩
  have bx := boxes2 w #[.bool n1, .int .u64 c1, .int .i64 s1] #[.bool n2, .int .u64 c2, .int .i64 s2] 24 24 g hg
  have H_bx := Lib.hid bx; clear bx
  have H_hcmp := Lib.hid hcmp; clear hcmp
  go_enter Tryz.func37, Tryz.ntmps37
  go_wp2_with (fail)
  generalize hw1 : (w.alloc _).alloc _ = w1
  rw [← hg]
  obtain ⟨b1, b2, hf⟩ := H_bx.out w1 hw1
  have k0 := row_cell b1 0
  have k1 := row_cell b1 1
  have k2 := row_cell b1 2
  simp at k0 k1 k2
  have k3 := row_cell b2 0
  have k4 := row_cell b2 1
  have k5 := row_cell b2 2
  simp at k3 k4 k5
  have H_b1 := Lib.hid b1; clear b1
  have H_b2 := Lib.hid b2; clear b2
  have H_hf := Lib.hid hf; clear hf
  have H_hw1 := Lib.hid hw1; clear hw1
  have H_hg := Lib.hid hg; clear hg
  go_region_held3 (fun (w' : World) => w'.cell? ⟨g, 0, none⟩ = some (.bool n1) ∧ w'.cell? ⟨g, 1, none⟩ = some (.int .u64 c1) ∧ w'.cell? ⟨g, 2, none⟩ = some (.int .i64 s1) ∧ w'.cell? ⟨g + 1, 0, none⟩ = some (.bool n2) ∧ w'.cell? ⟨g + 1, 1, none⟩ = some (.int .u64 c2) ∧ w'.cell? ⟨g + 1, 2, none⟩ = some (.int .i64 s2)) (first | exact ⟨k0, k1, k2, k3, k4, k5⟩ | exact ⟨m0, m1, m2, m3, m4, m5⟩ | exact ⟨o0, o1, o2, o3, o4, o5⟩ | exact ⟨u0, u1, u2, u3, u4, u5⟩) (first
    | (go_at_call 14; (with_reducible refine (FixNum_any n1 c1 s1 _ hs1 hc1).mono ?_); rintro e w2 ⟨x1, rfl, hx1, r⟩; have hy : Fresh w1 w2 := (by first | exact r | exact r.of_drew | exact r.of_drewN); have m0 := cell_fresh k0 hy; have m1 := cell_fresh k1 hy; have m2 := cell_fresh k2 hy; have m3 := cell_fresh k3 hy; have m4 := cell_fresh k4 hy; have m5 := cell_fresh k5 hy; have H_x1 := Lib.hid hx1; have H_f2 := Lib.hid hy; clear hx1 r hy)
    | (go_at_call 14; (with_reducible refine (FixNum_any n2 c2 s2 _ hs2 hc2).mono ?_); rintro e w3 ⟨x2, rfl, hx2, r⟩; have o0 := cell_fresh m0 r; have o1 := cell_fresh m1 r; have o2 := cell_fresh m2 r; have o3 := cell_fresh m3 r; have o4 := cell_fresh m4 r; have o5 := cell_fresh m5 r; have H_x2 := Lib.hid hx2; have H_f3 := Lib.hid r; clear hx2 r)
    | (go_at_call 19; (with_reducible refine (H_hcmp.out _ _ _ (H_x1.out.fresh H_f3.out) H_x2.out).mono ?_); rintro e w4 ⟨rfl, r⟩; have u0 := cell_fresh o0 r; have u1 := cell_fresh o1 r; have u2 := cell_fresh o2 r; have u3 := cell_fresh o3 r; have u4 := cell_fresh o4 r; have u5 := cell_fresh o5 r; have H_f4 := Lib.hid r; clear r))
  go_wp2_with (fail)
  go_ret
  exact ⟨rfl, fresh_trans (fresh_trans (fresh_trans H_hf.out H_f2.out) H_f3.out) H_f4.out⟩

set_option maxRecDepth 20000 in
set_option maxHeartbeats 4000000 in
theorem gvTotal_e (n1 n2 : Bool) (c1 s1 c2 s2 : Nat) (w : World) (hs1 : s1 ≤ 19) (hs2 : s2 ≤ 19) (hc1 : c1 ≤ 9999999999999999999) (hc2 : c2 ≤ 9999999999999999999) (hz : zcmp n1 c1 s1 n2 c2 s2 = 0 ∧ s1 = s2) :
    Calls Tryz.prog 37 #[fx n1 c1 s1, fx n2 c2 s2] w (VRet w (.int .i64 (ctot (zcmp n1 c1 s1 n2 c2 s2) s1 s2))) := by
  have hcmp := fun (xa xb : Value) (W : World) ha hb => FracCmp_any xa xb (zfix n1 c1) (zfix n2 c2) (10 ^ s1) (10 ^ s2) W ha hb (zfix_spow hc1) (zfix_spow hc2) (ten_spow hs1) (ten_spow hs2)
  change ∀ (xa xb : Value) (W : World) (ha : _) (hb : _), Calls Tryz.prog 19 #[xa, xb] W (IRet W (zcmp n1 c1 s1 n2 c2 s2)) at hcmp
  obtain ⟨hz, hlt⟩ := hz
  rw [hz] at hcmp ⊢
  subst hlt
  rw [show ctot 0 s1 s1 = 0 by unfold ctot; rw [if_neg (by omega), if_neg (by omega), if_neg (by omega), if_neg (by omega)]]
  have t1 : decide ((s1 : Int) < (s1 : Int)) = false := by simp
  clear hz
  obtain ⟨g, hg⟩ : ∃ g, g = w.heap.size := ⟨_, rfl⟩
  have bx := boxes2 w #[.bool n1, .int .u64 c1, .int .i64 s1] #[.bool n2, .int .u64 c2, .int .i64 s1] 24 24 g hg
  have H_bx := Lib.hid bx; clear bx
  have H_hcmp := Lib.hid hcmp; clear hcmp
  go_enter Tryz.func37, Tryz.ntmps37
  go_wp2_with (fail)
  generalize hw1 : (w.alloc _).alloc _ = w1
  rw [← hg]
  obtain ⟨b1, b2, hf⟩ := H_bx.out w1 hw1
  have k0 := row_cell b1 0
  have k1 := row_cell b1 1
  have k2 := row_cell b1 2
  simp at k0 k1 k2
  have k3 := row_cell b2 0
  have k4 := row_cell b2 1
  have k5 := row_cell b2 2
  simp at k3 k4 k5
  have H_b1 := Lib.hid b1; clear b1
  have H_b2 := Lib.hid b2; clear b2
  have H_hf := Lib.hid hf; clear hf
  have H_hw1 := Lib.hid hw1; clear hw1
  have H_hg := Lib.hid hg; clear hg
  go_region_held3 (fun (w' : World) => w'.cell? ⟨g, 0, none⟩ = some (.bool n1) ∧ w'.cell? ⟨g, 1, none⟩ = some (.int .u64 c1) ∧ w'.cell? ⟨g, 2, none⟩ = some (.int .i64 s1) ∧ w'.cell? ⟨g + 1, 0, none⟩ = some (.bool n2) ∧ w'.cell? ⟨g + 1, 1, none⟩ = some (.int .u64 c2) ∧ w'.cell? ⟨g + 1, 2, none⟩ = some (.int .i64 s1)) (first | exact ⟨k0, k1, k2, k3, k4, k5⟩ | exact ⟨m0, m1, m2, m3, m4, m5⟩ | exact ⟨o0, o1, o2, o3, o4, o5⟩ | exact ⟨u0, u1, u2, u3, u4, u5⟩) (first
    | (go_at_call 14; (with_reducible refine (FixNum_any n1 c1 s1 _ hs1 hc1).mono ?_); rintro e w2 ⟨x1, rfl, hx1, r⟩; have hy : Fresh w1 w2 := (by first | exact r | exact r.of_drew | exact r.of_drewN); have m0 := cell_fresh k0 hy; have m1 := cell_fresh k1 hy; have m2 := cell_fresh k2 hy; have m3 := cell_fresh k3 hy; have m4 := cell_fresh k4 hy; have m5 := cell_fresh k5 hy; have H_x1 := Lib.hid hx1; have H_f2 := Lib.hid hy; clear hx1 r hy)
    | (go_at_call 14; (with_reducible refine (FixNum_any n2 c2 s1 _ hs2 hc2).mono ?_); rintro e w3 ⟨x2, rfl, hx2, r⟩; have o0 := cell_fresh m0 r; have o1 := cell_fresh m1 r; have o2 := cell_fresh m2 r; have o3 := cell_fresh m3 r; have o4 := cell_fresh m4 r; have o5 := cell_fresh m5 r; have H_x2 := Lib.hid hx2; have H_f3 := Lib.hid r; clear hx2 r)
    | (go_at_call 19; (with_reducible refine (H_hcmp.out _ _ _ (H_x1.out.fresh H_f3.out) H_x2.out).mono ?_); rintro e w4 ⟨rfl, r⟩; have u0 := cell_fresh o0 r; have u1 := cell_fresh o1 r; have u2 := cell_fresh o2 r; have u3 := cell_fresh o3 r; have u4 := cell_fresh o4 r; have u5 := cell_fresh o5 r; have H_f4 := Lib.hid r; clear r))
  go_wp2_with (fail)
  go_ret
  exact ⟨rfl, fresh_trans (fresh_trans (fresh_trans H_hf.out H_f2.out) H_f3.out) H_f4.out⟩

theorem gvTotal_any (n1 n2 : Bool) (c1 s1 c2 s2 : Nat) (w : World) (hs1 : s1 ≤ 19) (hs2 : s2 ≤ 19) (hc1 : c1 ≤ 9999999999999999999) (hc2 : c2 ≤ 9999999999999999999) :
    Calls Tryz.prog 37 #[fx n1 c1 s1, fx n2 c2 s2] w (VRet w (.int .i64 (ctot (zcmp n1 c1 s1 n2 c2 s2) s1 s2))) := by
  rcases zcmp_cases n1 c1 s1 n2 c2 s2 with h | h | h
  · exact gvTotal_m n1 n2 c1 s1 c2 s2 w hs1 hs2 hc1 hc2 h
  · exact gvTotal_p n1 n2 c1 s1 c2 s2 w hs1 hs2 hc1 hc2 h
  · rcases Nat.lt_trichotomy s1 s2 with k | k | k
    · exact gvTotal_l n1 n2 c1 s1 c2 s2 w hs1 hs2 hc1 hc2 ⟨h, k⟩
    · exact gvTotal_e n1 n2 c1 s1 c2 s2 w hs1 hs2 hc1 hc2 ⟨h, k⟩
    · exact gvTotal_g n1 n2 c1 s1 c2 s2 w hs1 hs2 hc1 hc2 ⟨h, k⟩

end Go.Proofs.YtibaeafmgncjdaaGreatDoor

/- FnFixEnds's walk. -/
namespace Go.Proofs.YtibaeafmgncjdaaGreatDoor
open Go.RowKit

theorem getD_tf {l : Array Bool} {i : Nat} (h : l.getD i false = true) : l.getD i true = true := by
  by_cases hi : i < l.size
  · simpa [Array.getD, hi] using h
  · simp [Array.getD, hi]

/-- the value is the decimal of the reference of z tenths to the power of s -/
def DecIs (w : World) (x : Value) (z : Int) (s : Nat) : Prop := ∃ nb v l, x = .agg #[.bool nb, v, .int .i64 (-(s : Int))] ∧ SNat w v l ∧ Norm l ∧ (l = [] → nb = false) ∧ sint nb l = z ∧ l.length ≤ 1000

def DecRet (w : World) (z : Int) (s : Nat) (e : Ending) (w' : World) : Prop := ∃ x, e = .returned x ∧ DecIs w' x z s ∧ Fresh w w'

theorem FixDec_dec (n : Bool) (c s : Nat) (w : World) (hs : s ≤ 19) (hc : c ≤ 9999999999999999999) : Calls Tryz.prog 41 #[fx n c s] w (DecRet w (zfix n c) s) := by
  refine (FixDec_any n c s w hs hc).mono ?_
  rintro e w2 ⟨v, l, rfl, r1, r2, r3, r4⟩
  refine ⟨_, rfl, ⟨_, v, l, rfl, r1, r2, ?_, sint_zfix r2 r3, ?_⟩, r4⟩
  · rintro rfl; simp
  · have := len_of r2 r3 hc; omega

theorem FixSame_dec (n : Bool) (c s : Nat) (x : Value) (w : World) (hs : s ≤ 19) (hc : c ≤ 9999999999999999999) (hcan : n = true → 0 < c) (hx : DecIs w x (zfix n c) s) :
    Calls Tryz.prog 40 #[fx n c s, x] w (VRet w (.bool true)) := by
  obtain ⟨nb, v, l, rfl, h1, h2, h3, h4, h5⟩ := hx
  exact FixSame_any n c s nb v l w hs hc hcan h1 h2 h3 h4 h5

set_option maxRecDepth 20000 in
set_option maxHeartbeats 2000000 in
theorem FnFixEnds_out (n1 n2 : Bool) (c1 c2 : Nat) (s1 s2 : Int) (w : World) (h : (fixIs c1 s1 && fixIs c2 s2) = false) :
    Calls Tryz.prog 12 #[.agg #[.bool n1, .int .u64 c1, .int .i64 s1], .agg #[.bool n2, .int .u64 c2, .int .i64 s2]] w (VRet w (.bool true)) := by
  obtain ⟨g, hg⟩ : ∃ g, g = w.heap.size := ⟨_, rfl⟩
  have bx := boxes3 w #[.bool n1, .int .u64 c1, .int .i64 s1] #[.bool n2, .int .u64 c2, .int .i64 s2] #[.bool n1, .int .u64 c1, .int .i64 s1, .bool n2, .int .u64 c2, .int .i64 s2] 24 24 24 g hg
  have H_bx := Lib.hid bx; clear bx
  have H_h := Lib.hid h; clear h
  go_enter Tryz.func12, Tryz.ntmps12
  go_wp2_with (fail)
  generalize hw1 : ((w.alloc _).alloc _).alloc _ = w1
  rw [← hg]
  obtain ⟨b1, b2, b3, hf, hgs⟩ := H_bx.out w1 hw1
  refine (FixAll_two n1 n2 c1 c2 s1 s2 _ _ b3).mono ?_
  rintro e w2 ⟨rfl, f2⟩
  rw [H_h.out]
  have H_b1 := Lib.hid b1; clear b1
  have H_b2 := Lib.hid b2; clear b2
  have H_b3 := Lib.hid b3; clear b3
  have H_hf := Lib.hid hf; clear hf
  have H_hw1 := Lib.hid hw1; clear hw1
  have H_hg := Lib.hid hg; clear hg
  have H_hgs := Lib.hid hgs; clear hgs
  have H_f2 := Lib.hid f2; clear f2
  go_wp2_with (fail)
  go_ret
  exact ⟨rfl, fresh_trans H_hf.out H_f2.out⟩

set_option maxRecDepth 100000 in
set_option maxHeartbeats 8000000 in
theorem FnFixEnds_lt (n1 n2 : Bool) (c1 s1 c2 s2 : Nat) (w : World) (hs1 : s1 ≤ 19) (hs2 : s2 ≤ 19) (hc1 : c1 ≤ 9999999999999999999) (hc2 : c2 ≤ 9999999999999999999)
    (z : Int) (hz : z < 0) (na nb : Bool) (ca sa cb sb : Nat)
    (hgt : ∀ W, Calls Tryz.prog 37 #[fx n1 c1 s1, fx n2 c2 s2] W (VRet W (.int .i64 z)))
    (hmx : ∀ W, Fresh w W → Calls Tryz.prog 38 #[fx n1 c1 s1, fx n2 c2 s2] W (VRet W (.tuple #[fx na ca sa, .int .i64 0])))
    (hmn : ∀ W, Fresh w W → Calls Tryz.prog 39 #[fx n1 c1 s1, fx n2 c2 s2] W (VRet W (.tuple #[fx nb cb sb, .int .i64 0])))
    (hsa : ∀ W x, DecIs W x (zfix n2 c2) s2 → Calls Tryz.prog 40 #[fx na ca sa, x] W (VRet W (.bool true)))
    (hsb : ∀ W x, DecIs W x (zfix n1 c1) s1 → Calls Tryz.prog 40 #[fx nb cb sb, x] W (VRet W (.bool true))) :
    Calls Tryz.prog 12 #[fx n1 c1 s1, fx n2 c2 s2] w (VRet w (.bool true)) := by
  have h : (fixIs c1 s1 && fixIs c2 s2) = true := by unfold fixIs; simp; omega
  have hG : True := trivial
  have hP : True := trivial
  have hE : True := trivial
  have hda := fun W => FixDec_dec n2 c2 s2 W hs2 hc2
  have hdb := fun W => FixDec_dec n1 c1 s1 W hs1 hc1
  have tz : decide (z < 0) = true := by simpa using hz
  have H_hgt := Lib.hid hgt; clear hgt
  have H_hmx := Lib.hid hmx; clear hmx
  have H_hmn := Lib.hid hmn; clear hmn
  have H_hsa := Lib.hid hsa; clear hsa
  have H_hsb := Lib.hid hsb; clear hsb
  have H_hda := Lib.hid hda; clear hda
  have H_hdb := Lib.hid hdb; clear hdb
  obtain ⟨g, hg⟩ : ∃ g, g = w.heap.size := ⟨_, rfl⟩
  have bx := boxes3 w #[.bool n1, .int .u64 c1, .int .i64 s1] #[.bool n2, .int .u64 c2, .int .i64 s2] #[.bool n1, .int .u64 c1, .int .i64 s1, .bool n2, .int .u64 c2, .int .i64 s2] 24 24 24 g hg
  have H_bx := Lib.hid bx; clear bx
  have H_h := Lib.hid h; clear h
  have H_hG := Lib.hid hG; clear hG
  have H_hP := Lib.hid hP; clear hP
  have H_hE := Lib.hid hE; clear hE
  go_enter Tryz.func12, Tryz.ntmps12
  go_wp2_with (fail)
  generalize hw1 : ((w.alloc _).alloc _).alloc _ = w1
  rw [← hg]
  obtain ⟨b1, b2, b3, hf, hgs⟩ := H_bx.out w1 hw1
  refine (FixAll_two n1 n2 c1 c2 s1 s2 _ _ b3).mono ?_
  rintro e w2 ⟨rfl, f2⟩
  rw [H_h.out]
  have d1 := row_fresh b1 f2
  have d2 := row_fresh b2 f2
  have hfa := fresh_trans hf f2
  clear b1 b2 b3 hf f2
  have fa := hfa
  have H_d1 := Lib.hid d1; clear d1
  have H_d2 := Lib.hid d2; clear d2
  have H_hw1 := Lib.hid hw1; clear hw1
  have H_hg := Lib.hid hg; clear hg
  have H_hgs := Lib.hid hgs; clear hgs
  have H_hfa := Lib.hid hfa; clear hfa
  have H_fa := Lib.hid fa; clear fa
  go_wp2_with (fail)
  refine wp_region_slots 6 [16, 17, 5, 6] (fun l us w' => ∃ u0 u1 u2 u3 k2 k3, us = [u0, u1, u2, u3] ∧ Fresh w w' ∧ w'.heap[g]? = some (.cells #[.bool n1, .int .u64 c1, .int .i64 s1] 24 (0, 0)) ∧ w'.heap[g + 1]? = some (.cells #[.bool n2, .int .u64 c2, .int .i64 s2] 24 (0, 0)) ∧ (l.getD 0 false = true → u0 = (fx n1 c1 s1)) ∧ (l.getD 1 false = true → u1 = (fx n2 c2 s2)) ∧ (l.getD 2 false = true → u2 = .pointer (some ⟨k2, 0, none⟩) ∧ g + 1 < k2 ∧ ∃ a b c, w'.heap[k2]? = some (.cells #[a, b, c] 24 (0, 0))) ∧ (l.getD 3 false = true → u3 = .pointer (some ⟨k3, 0, none⟩) ∧ g + 1 < k3 ∧ ∃ a b c, w'.heap[k3]? = some (.cells #[a, b, c] 24 (0, 0))) ∧ (l.getD 2 false = true → l.getD 3 false = true → k2 ≠ k3) ∧ (l.getD 4 false = true → l.getD 2 false = true) ∧ (l.getD 5 false = true → l.getD 3 false = true) ∧ (l.getD 4 false = true → w'.heap[k2]? = some (.cells #[.bool n1, .int .u64 c1, .int .i64 s1] 24 (0, 0))) ∧ (l.getD 5 false = true → w'.heap[k3]? = some (.cells #[.bool n2, .int .u64 c2, .int .i64 s2] 24 (0, 0)))) (by kernel_rfl) (by kernel_rfl) [undef, undef, undef, undef] rfl ⟨_, _, _, _, 0, 0, rfl, H_fa.out.drew, by exact H_d1.out, by exact H_d2.out, by simp, by simp, by simp, by simp, by simp, by simp, by simp, by simp, by simp⟩ ?step ?fin
  case step =>
    rintro l us w' i ⟨u0, u1, u2, u3, k2, k3, rfl, hf', dd1, dd2, h0, h1, h2, h3, h6, hc4, hc5, h4, h5⟩ hi hr K hK
    obtain rfl | rfl | rfl | rfl | rfl | rfl : i = 0 ∨ i = 1 ∨ i = 2 ∨ i = 3 ∨ i = 4 ∨ i = 5 := by omega
    · have k0 := row_cell dd1 0
      have k1 := row_cell dd1 1
      have k2' := row_cell dd1 2
      simp at k0 k1 k2'
      have hK0 := hK [(fx n1 c1 s1), u1, u2, u3] w' ⟨_, _, _, _, k2, k3, rfl, hf', dd1, dd2, fun _ => rfl, fun h => h1 (was_up h (by decide)), fun h => h2 (was_up h (by decide)), fun h => h3 (was_up h (by decide)), fun h h' => h6 (was_up h (by decide)) (was_up h' (by decide)), fun h => getD_set_true (hc4 (was_up h (by decide))), fun h => getD_set_true (hc5 (was_up h (by decide))), fun h => h4 (was_up h (by decide)), fun h => h5 (was_up h (by decide))⟩
      have H_hK0 := Lib.hid hK0; clear hK0
      clear hK hf' h0 h1 h2 h3 h6 hc4 hc5 h4 h5 hr dd1 dd2
      refine wpOp_step rfl (fun K' hK' => ?_)
      have H_hK' := Lib.hid hK'; clear hK'
      try simp only [putAll, Act.put, List.getElem_toArray, List.getElem_cons_zero, List.setIfInBounds_toArray, List.set_cons_zero, List.set_cons_succ]
      go_simp
      exact H_hK'.out _ _ H_hK0.out
    · have k0 := row_cell dd2 0
      have k1 := row_cell dd2 1
      have k2' := row_cell dd2 2
      simp at k0 k1 k2'
      have hK0 := hK [u0, (fx n2 c2 s2), u2, u3] w' ⟨_, _, _, _, k2, k3, rfl, hf', dd1, dd2, fun h => h0 (was_up h (by decide)), fun _ => rfl, fun h => h2 (was_up h (by decide)), fun h => h3 (was_up h (by decide)), fun h h' => h6 (was_up h (by decide)) (was_up h' (by decide)), fun h => getD_set_true (hc4 (was_up h (by decide))), fun h => getD_set_true (hc5 (was_up h (by decide))), fun h => h4 (was_up h (by decide)), fun h => h5 (was_up h (by decide))⟩
      have H_hK0 := Lib.hid hK0; clear hK0
      clear hK hf' h0 h1 h2 h3 h6 hc4 hc5 h4 h5 hr dd1 dd2
      refine wpOp_step rfl (fun K' hK' => ?_)
      have H_hK' := Lib.hid hK'; clear hK'
      try simp only [putAll, Act.put, List.getElem_toArray, List.getElem_cons_zero, List.getElem_cons_succ, List.setIfInBounds_toArray, List.set_cons_zero, List.set_cons_succ]
      go_simp
      exact H_hK'.out _ _ H_hK0.out
    · have hF : Fresh w' (w'.alloc (.cells #[.bool false, .int .u64 0, .int .i64 0] 24)) := (Keep.refl _ _).alloc _
      have hno : l.getD 4 false = true → False := fun h => by
        have h1 := getD_tf (hc4 h)
        rw [(mem_ready.1 hr).1] at h1
        cases h1
      have hK0 := hK [u0, u1, (.pointer (some ⟨w'.heap.size, 0, none⟩)), u3] _ ⟨_, _, _, _, w'.heap.size, k3, rfl, fresh_trans hf' hF, row_fresh dd1 hF, row_fresh dd2 hF, fun h => h0 (was_up h (by decide)), fun h => h1 (was_up h (by decide)), fun _ => ⟨rfl, lt_of_row dd2, _, _, _, heap_alloc_new w' _⟩, fun h => ⟨(h3 (was_up h (by decide))).1, (h3 (was_up h (by decide))).2.1, by obtain ⟨a, b, c, hh⟩ := (h3 (was_up h (by decide))).2.2; exact ⟨a, b, c, row_fresh hh hF⟩⟩, fun _ h' => fun e => by obtain ⟨a, b, c, hh⟩ := (h3 (was_up h' (by decide))).2.2; have := lt_of_row hh; omega, fun h => getD_set_true (hc4 (was_up h (by decide))), fun h => getD_set_true (hc5 (was_up h (by decide))), fun h => (hno (was_up h (by decide))).elim, fun h => row_fresh (h5 (was_up h (by decide))) hF⟩
      have H_hK0 := Lib.hid hK0; clear hK0
      clear hK hno hf' h0 h1 h2 h3 h6 hc4 hc5 h4 h5 hr dd1 dd2 hF
      refine wpOp_step rfl (fun K' hK' => ?_)
      have H_hK' := Lib.hid hK'; clear hK'
      try simp only [putAll, Act.put, List.getElem_toArray, List.getElem_cons_zero, List.getElem_cons_succ, List.setIfInBounds_toArray, List.set_cons_zero, List.set_cons_succ]
      go_simp
      exact H_hK'.out _ _ H_hK0.out
    · have hF : Fresh w' (w'.alloc (.cells #[.bool false, .int .u64 0, .int .i64 0] 24)) := (Keep.refl _ _).alloc _
      have hno : l.getD 5 false = true → False := fun h => by
        have h1 := getD_tf (hc5 h)
        rw [(mem_ready.1 hr).1] at h1
        cases h1
      have hK0 := hK [u0, u1, u2, (.pointer (some ⟨w'.heap.size, 0, none⟩))] _ ⟨_, _, _, _, k2, w'.heap.size, rfl, fresh_trans hf' hF, row_fresh dd1 hF, row_fresh dd2 hF, fun h => h0 (was_up h (by decide)), fun h => h1 (was_up h (by decide)), fun h => ⟨(h2 (was_up h (by decide))).1, (h2 (was_up h (by decide))).2.1, by obtain ⟨a, b, c, hh⟩ := (h2 (was_up h (by decide))).2.2; exact ⟨a, b, c, row_fresh hh hF⟩⟩, fun _ => ⟨rfl, lt_of_row dd2, _, _, _, heap_alloc_new w' _⟩, fun h _ => fun e => by obtain ⟨a, b, c, hh⟩ := (h2 (was_up h (by decide))).2.2; have := lt_of_row hh; omega, fun h => getD_set_true (hc4 (was_up h (by decide))), fun h => getD_set_true (hc5 (was_up h (by decide))), fun h => row_fresh (h4 (was_up h (by decide))) hF, fun h => (hno (was_up h (by decide))).elim⟩
      have H_hK0 := Lib.hid hK0; clear hK0
      clear hK hno hf' h0 h1 h2 h3 h6 hc4 hc5 h4 h5 hr dd1 dd2 hF
      refine wpOp_step rfl (fun K' hK' => ?_)
      have H_hK' := Lib.hid hK'; clear hK'
      try simp only [putAll, Act.put, List.getElem_toArray, List.getElem_cons_zero, List.getElem_cons_succ, List.setIfInBounds_toArray, List.set_cons_zero, List.set_cons_succ]
      go_simp
      exact H_hK'.out _ _ H_hK0.out
    · have e0 := h0 (ready_dep hr (by kernel_rfl))
      subst e0
      obtain ⟨rfl, gk2, a2, b2', c2', r2⟩ := h2 (ready_dep hr (by kernel_rfl))
      obtain ⟨rfl, gk3, a3, b3', c3', r3⟩ := h3 (ready_dep hr (by kernel_rfl))
      have hk := h6 (ready_dep hr (by kernel_rfl)) (ready_dep hr (by kernel_rfl))
      have q0 : w'.frozen? ⟨k2, 0, none⟩ = false := frozen_of_row _ _ _ _ _ r2
      have q1 : w'.frozen? ⟨k2, 1, none⟩ = false := frozen_of_row _ _ _ _ _ r2
      have q2 : w'.frozen? ⟨k2, 2, none⟩ = false := frozen_of_row _ _ _ _ _ r2
      have p0 := row_cell r2 0
      have p1 := row_cell r2 1
      have p2 := row_cell r2 2
      simp at p0 p1 p2
      have hgw := H_hg.out
      have hK0 := hK [(fx n1 c1 s1), u1, (.pointer (some ⟨k2, 0, none⟩)), (.pointer (some ⟨k3, 0, none⟩))] (((w'.setCell ⟨k2, 0, none⟩ (.bool n1)).setCell ⟨k2, 1, none⟩ (.int .u64 c1)).setCell ⟨k2, 2, none⟩ (.int .i64 s1)) ⟨_, _, _, _, k2, k3, rfl, hf'.set3 (by omega), row3_ne (by omega) dd1, row3_ne (by omega) dd2, fun _ => rfl, fun h => h1 (was_up h (by decide)), fun _ => ⟨rfl, gk2, _, _, _, row3 r2⟩, fun _ => ⟨rfl, gk3, _, _, _, row3_ne hk r3⟩, fun _ _ => hk, fun _ => getD_set_true (ready_dep hr (by kernel_rfl)), fun h => getD_set_true (hc5 (was_up h (by decide))), fun _ => row3 r2, fun h => row3_ne hk (h5 (was_up h (by decide)))⟩
      have H_hK0 := Lib.hid hK0; clear hK0
      clear hK hf' h0 h1 h2 h3 h6 hc4 hc5 h4 h5 hr dd1 dd2 hk gk2 gk3 r2 r3 hgw
      refine wpOp_step rfl (fun K' hK' => ?_)
      have H_hK' := Lib.hid hK'; clear hK'
      try simp only [putAll, Act.put, List.getElem_toArray, List.getElem_cons_zero, List.getElem_cons_succ, List.setIfInBounds_toArray, List.set_cons_zero, List.set_cons_succ]
      go_simp
      exact H_hK'.out _ _ H_hK0.out
    · have e0 := h1 (ready_dep hr (by kernel_rfl))
      subst e0
      obtain ⟨rfl, gk2, a2, b2', c2', r2⟩ := h2 (ready_dep hr (by kernel_rfl))
      obtain ⟨rfl, gk3, a3, b3', c3', r3⟩ := h3 (ready_dep hr (by kernel_rfl))
      have hk := h6 (ready_dep hr (by kernel_rfl)) (ready_dep hr (by kernel_rfl))
      have q0 : w'.frozen? ⟨k3, 0, none⟩ = false := frozen_of_row _ _ _ _ _ r3
      have q1 : w'.frozen? ⟨k3, 1, none⟩ = false := frozen_of_row _ _ _ _ _ r3
      have q2 : w'.frozen? ⟨k3, 2, none⟩ = false := frozen_of_row _ _ _ _ _ r3
      have p0 := row_cell r3 0
      have p1 := row_cell r3 1
      have p2 := row_cell r3 2
      simp at p0 p1 p2
      have hgw := H_hg.out
      have hK0 := hK [u0, (fx n2 c2 s2), (.pointer (some ⟨k2, 0, none⟩)), (.pointer (some ⟨k3, 0, none⟩))] (((w'.setCell ⟨k3, 0, none⟩ (.bool n2)).setCell ⟨k3, 1, none⟩ (.int .u64 c2)).setCell ⟨k3, 2, none⟩ (.int .i64 s2)) ⟨_, _, _, _, k2, k3, rfl, hf'.set3 (by omega), row3_ne (by omega) dd1, row3_ne (by omega) dd2, fun h => h0 (was_up h (by decide)), fun _ => rfl, fun _ => ⟨rfl, gk2, _, _, _, row3_ne (Ne.symm hk) r2⟩, fun _ => ⟨rfl, gk3, _, _, _, row3 r3⟩, fun _ _ => hk, fun h => getD_set_true (hc4 (was_up h (by decide))), fun _ => getD_set_true (ready_dep hr (by kernel_rfl)), fun h => row3_ne (Ne.symm hk) (h4 (was_up h (by decide))), fun _ => row3 r3⟩
      have H_hK0 := Lib.hid hK0; clear hK0
      clear hK hf' h0 h1 h2 h3 h6 hc4 hc5 h4 h5 hr dd1 dd2 hk gk2 gk3 r2 r3 hgw
      refine wpOp_step rfl (fun K' hK' => ?_)
      have H_hK' := Lib.hid hK'; clear hK'
      try simp only [putAll, Act.put, List.getElem_toArray, List.getElem_cons_zero, List.getElem_cons_succ, List.setIfInBounds_toArray, List.set_cons_zero, List.set_cons_succ]
      go_simp
      exact H_hK'.out _ _ H_hK0.out
  case fin =>
    rintro us w3 ⟨u0, u1, u2, u3, k2, k3, rfl, hf', d1, d2, -, -, h2, h3, h6, -, -, h4, h5⟩
    obtain ⟨rfl, gk2, -⟩ := h2 rfl
    obtain ⟨rfl, gk3, -⟩ := h3 rfl
    have hk := h6 rfl rfl
    have r2 := h4 rfl
    have r3 := h5 rfl
    clear h2 h3 h4 h5 h6 H_fa H_d1 H_d2
    have m0 := row_cell d1 0
    have m1 := row_cell d1 1
    have m2 := row_cell d1 2
    simp at m0 m1 m2
    have m3 := row_cell d2 0
    have m4 := row_cell d2 1
    have m5 := row_cell d2 2
    simp at m3 m4 m5
    have fa := hf'
    clear hf'
    have H_d1 := Lib.hid d1; clear d1
    have H_d2 := Lib.hid d2; clear d2
    have H_hk := Lib.hid hk; clear hk
    have H_gk2 := Lib.hid gk2; clear gk2
    have H_gk3 := Lib.hid gk3; clear gk3
    have H_r2 := Lib.hid r2; clear r2
    have H_r3 := Lib.hid r3; clear r3
    have H_fa := Lib.hid fa; clear fa
    refine wpAny_end (by kernel_rfl) ?_ _
    try simp only [putAll, Act.put, List.setIfInBounds_toArray, List.set_cons_zero, List.set_cons_succ]
    go_wp2_with (fail)
    refine (H_hgt.out _).mono ?_
    rintro e w4 ⟨rfl, f4⟩
    have d1 := row_fresh H_d1.out f4
    have d2 := row_fresh H_d2.out f4
    have r2 := row_fresh H_r2.out f4
    have r3 := row_fresh H_r3.out f4
    have fa := fresh_trans H_fa.out f4
    clear m0 m1 m2 m3 m4 m5 H_d1 H_d2 H_r2 H_r3 H_fa
    have H_f4 := Lib.hid f4; clear f4
    have H_d1 := Lib.hid d1; clear d1
    have H_d2 := Lib.hid d2; clear d2
    have H_r2 := Lib.hid r2; clear r2
    have H_r3 := Lib.hid r3; clear r3
    have H_fa := Lib.hid fa; clear fa
    go_wp2_with (fail)
    refine wp_region_slots 4 [22, 23] (fun l us w' => ∃ u0 u1, us = [u0, u1] ∧ Fresh w w' ∧ w'.heap[g]? = some (.cells #[.bool n1, .int .u64 c1, .int .i64 s1] 24 (0, 0)) ∧ w'.heap[g + 1]? = some (.cells #[.bool n2, .int .u64 c2, .int .i64 s2] 24 (0, 0)) ∧ (l.getD 0 false = true → u0 = (fx n2 c2 s2)) ∧ (l.getD 1 false = true → u1 = (fx n1 c1 s1)) ∧ (∃ a b c, w'.heap[k2]? = some (.cells #[a, b, c] 24 (0, 0))) ∧ (∃ a b c, w'.heap[k3]? = some (.cells #[a, b, c] 24 (0, 0))) ∧ (l.getD 2 false = true → w'.heap[k2]? = some (.cells #[.bool n2, .int .u64 c2, .int .i64 s2] 24 (0, 0))) ∧ (l.getD 3 false = true → w'.heap[k3]? = some (.cells #[.bool n1, .int .u64 c1, .int .i64 s1] 24 (0, 0)))) (by kernel_rfl) (by kernel_rfl) [undef, undef] rfl ⟨_, _, rfl, H_fa.out.drew, by exact H_d1.out, by exact H_d2.out, by simp, by simp, ⟨_, _, _, H_r2.out⟩, ⟨_, _, _, H_r3.out⟩, by simp, by simp⟩ ?step2 ?fin2
    case step2 =>
      rintro l us w' i ⟨u0, u1, rfl, hf', dd1, dd2, h0, h1, h2, h3, h4, h5⟩ hi hr K hK
      obtain rfl | rfl | rfl | rfl : i = 0 ∨ i = 1 ∨ i = 2 ∨ i = 3 := by omega
      · have k0 := row_cell dd2 0
        have k1 := row_cell dd2 1
        have k2' := row_cell dd2 2
        simp at k0 k1 k2'
        have hK0 := hK [(fx n2 c2 s2), u1] w' ⟨_, _, rfl, hf', dd1, dd2, fun _ => rfl, fun h => h1 (was_up h (by decide)), h2, h3, fun h => h4 (was_up h (by decide)), fun h => h5 (was_up h (by decide))⟩
        have H_hK0 := Lib.hid hK0; clear hK0
        clear hK hf' h0 h1 h2 h3 h4 h5 hr dd1 dd2
        refine wpOp_step rfl (fun K' hK' => ?_)
        have H_hK' := Lib.hid hK'; clear hK'
        try simp only [putAll, Act.put, List.getElem_toArray, List.getElem_cons_zero, List.setIfInBounds_toArray, List.set_cons_zero, List.set_cons_succ]
        go_simp
        exact H_hK'.out _ _ H_hK0.out
      · have k0 := row_cell dd1 0
        have k1 := row_cell dd1 1
        have k2' := row_cell dd1 2
        simp at k0 k1 k2'
        have hK0 := hK [u0, (fx n1 c1 s1)] w' ⟨_, _, rfl, hf', dd1, dd2, fun h => h0 (was_up h (by decide)), fun _ => rfl, h2, h3, fun h => h4 (was_up h (by decide)), fun h => h5 (was_up h (by decide))⟩
        have H_hK0 := Lib.hid hK0; clear hK0
        clear hK hf' h0 h1 h2 h3 h4 h5 hr dd1 dd2
        refine wpOp_step rfl (fun K' hK' => ?_)
        have H_hK' := Lib.hid hK'; clear hK'
        try simp only [putAll, Act.put, List.getElem_toArray, List.getElem_cons_zero, List.getElem_cons_succ, List.setIfInBounds_toArray, List.set_cons_zero, List.set_cons_succ]
        go_simp
        exact H_hK'.out _ _ H_hK0.out
      · have e0 := h0 (ready_dep hr (by kernel_rfl))
        subst e0
        obtain ⟨a2, b2', c2', r2⟩ := h2
        obtain ⟨a3, b3', c3', r3⟩ := h3
        have hk := H_hk.out
        have gk2 := H_gk2.out
        have gk3 := H_gk3.out
        have q0 : w'.frozen? ⟨k2, 0, none⟩ = false := frozen_of_row _ _ _ _ _ r2
        have q1 : w'.frozen? ⟨k2, 1, none⟩ = false := frozen_of_row _ _ _ _ _ r2
        have q2 : w'.frozen? ⟨k2, 2, none⟩ = false := frozen_of_row _ _ _ _ _ r2
        have p0 := row_cell r2 0
        have p1 := row_cell r2 1
        have p2 := row_cell r2 2
        simp at p0 p1 p2
        have hgw := H_hg.out
        have hK0 := hK [(fx n2 c2 s2), u1] (((w'.setCell ⟨k2, 0, none⟩ (.bool n2)).setCell ⟨k2, 1, none⟩ (.int .u64 c2)).setCell ⟨k2, 2, none⟩ (.int .i64 s2)) ⟨_, _, rfl, hf'.set3 (by omega), row3_ne (by omega) dd1, row3_ne (by omega) dd2, fun _ => rfl, fun h => h1 (was_up h (by decide)), ⟨_, _, _, row3 r2⟩, ⟨_, _, _, row3_ne hk r3⟩, fun _ => row3 r2, fun h => row3_ne hk (h5 (was_up h (by decide)))⟩
        have H_hK0 := Lib.hid hK0; clear hK0
        clear hK hf' h0 h1 h4 h5 hr dd1 dd2 hk gk2 gk3 r2 r3 hgw
        refine wpOp_step rfl (fun K' hK' => ?_)
        have H_hK' := Lib.hid hK'; clear hK'
        try simp only [putAll, Act.put, List.getElem_toArray, List.getElem_cons_zero, List.getElem_cons_succ, List.setIfInBounds_toArray, List.set_cons_zero, List.set_cons_succ]
        go_simp
        exact H_hK'.out _ _ H_hK0.out
      · have e0 := h1 (ready_dep hr (by kernel_rfl))
        subst e0
        obtain ⟨a2, b2', c2', r2⟩ := h2
        obtain ⟨a3, b3', c3', r3⟩ := h3
        have hk := H_hk.out
        have gk2 := H_gk2.out
        have gk3 := H_gk3.out
        have q0 : w'.frozen? ⟨k3, 0, none⟩ = false := frozen_of_row _ _ _ _ _ r3
        have q1 : w'.frozen? ⟨k3, 1, none⟩ = false := frozen_of_row _ _ _ _ _ r3
        have q2 : w'.frozen? ⟨k3, 2, none⟩ = false := frozen_of_row _ _ _ _ _ r3
        have p0 := row_cell r3 0
        have p1 := row_cell r3 1
        have p2 := row_cell r3 2
        simp at p0 p1 p2
        have hgw := H_hg.out
        have hK0 := hK [u0, (fx n1 c1 s1)] (((w'.setCell ⟨k3, 0, none⟩ (.bool n1)).setCell ⟨k3, 1, none⟩ (.int .u64 c1)).setCell ⟨k3, 2, none⟩ (.int .i64 s1)) ⟨_, _, rfl, hf'.set3 (by omega), row3_ne (by omega) dd1, row3_ne (by omega) dd2, fun h => h0 (was_up h (by decide)), fun _ => rfl, ⟨_, _, _, row3_ne (Ne.symm hk) r2⟩, ⟨_, _, _, row3 r3⟩, fun h => row3_ne (Ne.symm hk) (h4 (was_up h (by decide))), fun _ => row3 r3⟩
        have H_hK0 := Lib.hid hK0; clear hK0
        clear hK hf' h0 h1 h4 h5 hr dd1 dd2 hk gk2 gk3 r2 r3 hgw
        refine wpOp_step rfl (fun K' hK' => ?_)
        have H_hK' := Lib.hid hK'; clear hK'
        try simp only [putAll, Act.put, List.getElem_toArray, List.getElem_cons_zero, List.getElem_cons_succ, List.setIfInBounds_toArray, List.set_cons_zero, List.set_cons_succ]
        go_simp
        exact H_hK'.out _ _ H_hK0.out
    case fin2 =>
      rintro us w5 ⟨u0, u1, rfl, hf', d1, d2, -, -, -, -, h4, h5⟩
      have r2 := h4 rfl
      have r3 := h5 rfl
      have fa := hf'
      clear h4 h5 hf' H_d1 H_d2 H_r2 H_r3 H_fa
      have H_d1 := Lib.hid d1; clear d1
      have H_d2 := Lib.hid d2; clear d2
      have H_r2 := Lib.hid r2; clear r2
      have H_r3 := Lib.hid r3; clear r3
      have H_fa := Lib.hid fa; clear fa
      refine wpAny_end (by kernel_rfl) ?_ _
      try simp only [putAll, Act.put, List.setIfInBounds_toArray, List.set_cons_zero, List.set_cons_succ]
      have d1 := H_d1.out
      have d2 := H_d2.out
      have m0 := row_cell d1 0
      have m1 := row_cell d1 1
      have m2 := row_cell d1 2
      simp at m0 m1 m2
      have m3 := row_cell d2 0
      have m4 := row_cell d2 1
      have m5 := row_cell d2 2
      simp at m3 m4 m5
      clear d1 d2
      go_wp2_with (fail)
      refine (H_hmx.out _ H_fa.out).mono ?_
      rintro e w6 ⟨rfl, f6⟩
      have d1 := row_fresh H_d1.out f6
      have d2 := row_fresh H_d2.out f6
      have r2 := row_fresh H_r2.out f6
      have r3 := row_fresh H_r3.out f6
      have fa := fresh_trans H_fa.out f6
      obtain ⟨h7, hh7⟩ : ∃ h7, h7 = w6.heap.size := ⟨_, rfl⟩
      clear m0 m1 m2 m3 m4 m5 H_d1 H_d2 H_r2 H_r3 H_fa
      have m0 := row_cell d1 0
      have m1 := row_cell d1 1
      have m2 := row_cell d1 2
      simp at m0 m1 m2
      have m3 := row_cell d2 0
      have m4 := row_cell d2 1
      have m5 := row_cell d2 2
      simp at m3 m4 m5
      have a0 := fun o => cell_fresh m0 ((Keep.refl (fun _ => False) w6).alloc o)
      have a1 := fun o => cell_fresh m1 ((Keep.refl (fun _ => False) w6).alloc o)
      have a2 := fun o => cell_fresh m2 ((Keep.refl (fun _ => False) w6).alloc o)
      have a3 := fun o => cell_fresh m3 ((Keep.refl (fun _ => False) w6).alloc o)
      have a4 := fun o => cell_fresh m4 ((Keep.refl (fun _ => False) w6).alloc o)
      have a5 := fun o => cell_fresh m5 ((Keep.refl (fun _ => False) w6).alloc o)
      clear m0 m1 m2 m3 m4 m5
      have H_f6 := Lib.hid f6; clear f6
      have H_d1 := Lib.hid d1; clear d1
      have H_d2 := Lib.hid d2; clear d2
      have H_r2 := Lib.hid r2; clear r2
      have H_r3 := Lib.hid r3; clear r3
      have H_fa := Lib.hid fa; clear fa
      have H_hh7 := Lib.hid hh7; clear hh7
      go_wp2_with (fail)
      generalize hw7 : w6.alloc _ = w7
      have f7 : Fresh w6 w7 := by rw [← hw7]; exact (Keep.refl _ _).alloc _
      have e7 : w7.heap[h7]? = some (.cells #[.bool na, .int .u64 ca, .int .i64 sa] 24 (0, 0)) := by rw [← hw7, H_hh7.out]; exact heap_alloc_new w6 _
      rw [← H_hh7.out]
      have r2 := row_fresh H_r2.out f7
      have r3 := row_fresh H_r3.out f7
      have fa := fresh_trans H_fa.out f7
      clear a0 a1 a2 a3 a4 a5 H_d1 H_d2 H_r2 H_r3 H_fa
      have H_hw7 := Lib.hid hw7; clear hw7
      have H_f7 := Lib.hid f7; clear f7
      have H_e7 := Lib.hid e7; clear e7
      have H_r2 := Lib.hid r2; clear r2
      have H_r3 := Lib.hid r3; clear r3
      have H_fa := Lib.hid fa; clear fa
      refine (H_hmn.out _ H_fa.out).mono ?_
      rintro e w8 ⟨rfl, f8⟩
      have e7 := row_fresh H_e7.out f8
      have r2 := row_fresh H_r2.out f8
      have r3 := row_fresh H_r3.out f8
      have fa := fresh_trans H_fa.out f8
      obtain ⟨h9, hh9⟩ : ∃ h9, h9 = w8.heap.size := ⟨_, rfl⟩
      clear H_e7 H_r2 H_r3 H_fa
      have H_f8 := Lib.hid f8; clear f8
      have H_e7 := Lib.hid e7; clear e7
      have H_r2 := Lib.hid r2; clear r2
      have H_r3 := Lib.hid r3; clear r3
      have H_fa := Lib.hid fa; clear fa
      have H_hh9 := Lib.hid hh9; clear hh9
      go_wp2_with (fail)
      generalize hw9 : w8.alloc _ = w9
      have f9 : Fresh w8 w9 := by rw [← hw9]; exact (Keep.refl _ _).alloc _
      have e9 : w9.heap[h9]? = some (.cells #[.bool nb, .int .u64 cb, .int .i64 sb] 24 (0, 0)) := by rw [← hw9, H_hh9.out]; exact heap_alloc_new w8 _
      rw [← H_hh9.out]
      have e7 := row_fresh H_e7.out f9
      have r2 := row_fresh H_r2.out f9
      have r3 := row_fresh H_r3.out f9
      have fa := fresh_trans H_fa.out f9
      clear H_e7 H_r2 H_r3 H_fa
      have t0 := row_cell r2 0
      have t1 := row_cell r2 1
      have t2 := row_cell r2 2
      have t3 := row_cell r3 0
      have t4 := row_cell r3 1
      have t5 := row_cell r3 2
      have t6 := row_cell e7 0
      have t7 := row_cell e7 1
      have t8 := row_cell e7 2
      have t9 := row_cell e9 0
      have t10 := row_cell e9 1
      have t11 := row_cell e9 2
      simp at t0 t1 t2 t3 t4 t5 t6 t7 t8 t9 t10 t11
      have H_hw9 := Lib.hid hw9; clear hw9
      have H_f9 := Lib.hid f9; clear f9
      have H_e9 := Lib.hid e9; clear e9
      have H_e7 := Lib.hid e7; clear e7
      have H_r2 := Lib.hid r2; clear r2
      have H_r3 := Lib.hid r3; clear r3
      have H_fa := Lib.hid fa; clear fa
      go_region_held3 (fun (w' : World) => w'.cell? ⟨k2, 0, none⟩ = some (.bool n2) ∧ w'.cell? ⟨k2, 1, none⟩ = some (.int .u64 c2) ∧ w'.cell? ⟨k2, 2, none⟩ = some (.int .i64 s2) ∧ w'.cell? ⟨k3, 0, none⟩ = some (.bool n1) ∧ w'.cell? ⟨k3, 1, none⟩ = some (.int .u64 c1) ∧ w'.cell? ⟨k3, 2, none⟩ = some (.int .i64 s1) ∧ w'.cell? ⟨h7, 0, none⟩ = some (.bool na) ∧ w'.cell? ⟨h7, 1, none⟩ = some (.int .u64 ca) ∧ w'.cell? ⟨h7, 2, none⟩ = some (.int .i64 sa) ∧ w'.cell? ⟨h9, 0, none⟩ = some (.bool nb) ∧ w'.cell? ⟨h9, 1, none⟩ = some (.int .u64 cb) ∧ w'.cell? ⟨h9, 2, none⟩ = some (.int .i64 sb)) (first | exact ⟨t0, t1, t2, t3, t4, t5, t6, t7, t8, t9, t10, t11⟩ | exact ⟨z2_0, z2_1, z2_2, z2_3, z2_4, z2_5, z2_6, z2_7, z2_8, z2_9, z2_10, z2_11⟩ | exact ⟨z4_0, z4_1, z4_2, z4_3, z4_4, z4_5, z4_6, z4_7, z4_8, z4_9, z4_10, z4_11⟩ | exact ⟨z6_0, z6_1, z6_2, z6_3, z6_4, z6_5, z6_6, z6_7, z6_8, z6_9, z6_10, z6_11⟩ | exact ⟨z8_0, z8_1, z8_2, z8_3, z8_4, z8_5, z8_6, z8_7, z8_8, z8_9, z8_10, z8_11⟩ | exact ⟨z10_0, z10_1, z10_2, z10_3, z10_4, z10_5, z10_6, z10_7, z10_8, z10_9, z10_10, z10_11⟩) (first
          | (go_at_call 41; (with_reducible refine (H_hda.out _).mono ?_); rintro e y1_ ⟨gx, rfl, hsgx, r⟩; have hy : Fresh w9 y1_ := (by first | exact r | exact r.of_drew | exact r.of_drewN); have z2_0 := cell_fresh t0 hy; have z2_1 := cell_fresh t1 hy; have z2_2 := cell_fresh t2 hy; have z2_3 := cell_fresh t3 hy; have z2_4 := cell_fresh t4 hy; have z2_5 := cell_fresh t5 hy; have z2_6 := cell_fresh t6 hy; have z2_7 := cell_fresh t7 hy; have z2_8 := cell_fresh t8 hy; have z2_9 := cell_fresh t9 hy; have z2_10 := cell_fresh t10 hy; have z2_11 := cell_fresh t11 hy; have fy1_ := hy; have H_fy1_ := Lib.hid fy1_; have H_hygx := Lib.hid hy; have H_hsgx := Lib.hid hsgx; clear r hy hsgx fy1_)
          | (go_at_call 40; (with_reducible refine (H_hsa.out _ _ H_hsgx.out).mono ?_); rintro e y3_ ⟨rfl, r⟩; have hy : Fresh y1_ y3_ := r; have z4_0 := cell_fresh z2_0 hy; have z4_1 := cell_fresh z2_1 hy; have z4_2 := cell_fresh z2_2 hy; have z4_3 := cell_fresh z2_3 hy; have z4_4 := cell_fresh z2_4 hy; have z4_5 := cell_fresh z2_5 hy; have z4_6 := cell_fresh z2_6 hy; have z4_7 := cell_fresh z2_7 hy; have z4_8 := cell_fresh z2_8 hy; have z4_9 := cell_fresh z2_9 hy; have z4_10 := cell_fresh z2_10 hy; have z4_11 := cell_fresh z2_11 hy; have fy3_ := fresh_trans H_fy1_.out hy; have H_fy3_ := Lib.hid fy3_; clear r hy fy3_)
          | (go_at_call 41; (with_reducible refine (H_hdb.out _).mono ?_); rintro e y5_ ⟨hx, rfl, hshx, r⟩; have hy : Fresh y3_ y5_ := r; have z6_0 := cell_fresh z4_0 hy; have z6_1 := cell_fresh z4_1 hy; have z6_2 := cell_fresh z4_2 hy; have z6_3 := cell_fresh z4_3 hy; have z6_4 := cell_fresh z4_4 hy; have z6_5 := cell_fresh z4_5 hy; have z6_6 := cell_fresh z4_6 hy; have z6_7 := cell_fresh z4_7 hy; have z6_8 := cell_fresh z4_8 hy; have z6_9 := cell_fresh z4_9 hy; have z6_10 := cell_fresh z4_10 hy; have z6_11 := cell_fresh z4_11 hy; have fy5_ := fresh_trans H_fy3_.out hy; have H_fy5_ := Lib.hid fy5_; have H_hyhx := Lib.hid hy; have H_hshx := Lib.hid hshx; clear r hy hshx fy5_)
          | (go_at_call 40; (with_reducible refine (H_hsb.out _ _ H_hshx.out).mono ?_); rintro e y7_ ⟨rfl, r⟩; have hy : Fresh y5_ y7_ := r; have z8_0 := cell_fresh z6_0 hy; have z8_1 := cell_fresh z6_1 hy; have z8_2 := cell_fresh z6_2 hy; have z8_3 := cell_fresh z6_3 hy; have z8_4 := cell_fresh z6_4 hy; have z8_5 := cell_fresh z6_5 hy; have z8_6 := cell_fresh z6_6 hy; have z8_7 := cell_fresh z6_7 hy; have z8_8 := cell_fresh z6_8 hy; have z8_9 := cell_fresh z6_9 hy; have z8_10 := cell_fresh z6_10 hy; have z8_11 := cell_fresh z6_11 hy; have fy7_ := fresh_trans H_fy5_.out hy; have H_fy7_ := Lib.hid fy7_; clear r hy fy7_)
          | (go_at_call 21; (with_reducible refine (gvLives_any _).mono ?_); rintro e y9_ ⟨rfl, r⟩; have hy : Fresh y7_ y9_ := r; have z10_0 := cell_fresh z8_0 hy; have z10_1 := cell_fresh z8_1 hy; have z10_2 := cell_fresh z8_2 hy; have z10_3 := cell_fresh z8_3 hy; have z10_4 := cell_fresh z8_4 hy; have z10_5 := cell_fresh z8_5 hy; have z10_6 := cell_fresh z8_6 hy; have z10_7 := cell_fresh z8_7 hy; have z10_8 := cell_fresh z8_8 hy; have z10_9 := cell_fresh z8_9 hy; have z10_10 := cell_fresh z8_10 hy; have z10_11 := cell_fresh z8_11 hy; have fy9_ := fresh_trans H_fy7_.out hy; have H_fy9_ := Lib.hid fy9_; clear r hy fy9_))
      go_wp2
      go_ret
      exact ⟨by rfl, fresh_trans H_fa.out H_fy9_.out⟩

set_option maxRecDepth 100000 in
set_option maxHeartbeats 8000000 in
theorem FnFixEnds_ge (n1 n2 : Bool) (c1 s1 c2 s2 : Nat) (w : World) (hs1 : s1 ≤ 19) (hs2 : s2 ≤ 19) (hc1 : c1 ≤ 9999999999999999999) (hc2 : c2 ≤ 9999999999999999999)
    (z : Int) (hz : ¬ z < 0) (na nb : Bool) (ca sa cb sb : Nat)
    (hgt : ∀ W, Calls Tryz.prog 37 #[fx n1 c1 s1, fx n2 c2 s2] W (VRet W (.int .i64 z)))
    (hmx : ∀ W, Fresh w W → Calls Tryz.prog 38 #[fx n1 c1 s1, fx n2 c2 s2] W (VRet W (.tuple #[fx na ca sa, .int .i64 0])))
    (hmn : ∀ W, Fresh w W → Calls Tryz.prog 39 #[fx n1 c1 s1, fx n2 c2 s2] W (VRet W (.tuple #[fx nb cb sb, .int .i64 0])))
    (hsa : ∀ W x, DecIs W x (zfix n1 c1) s1 → Calls Tryz.prog 40 #[fx na ca sa, x] W (VRet W (.bool true)))
    (hsb : ∀ W x, DecIs W x (zfix n2 c2) s2 → Calls Tryz.prog 40 #[fx nb cb sb, x] W (VRet W (.bool true))) :
    Calls Tryz.prog 12 #[fx n1 c1 s1, fx n2 c2 s2] w (VRet w (.bool true)) := by
  have h : (fixIs c1 s1 && fixIs c2 s2) = true := by unfold fixIs; simp; omega
  have hG : True := trivial
  have hP : True := trivial
  have hE : True := trivial
  have hda := fun W => FixDec_dec n1 c1 s1 W hs1 hc1
  have hdb := fun W => FixDec_dec n2 c2 s2 W hs2 hc2
  have tz : decide (z < 0) = false := by simpa using hz
  have H_hgt := Lib.hid hgt; clear hgt
  have H_hmx := Lib.hid hmx; clear hmx
  have H_hmn := Lib.hid hmn; clear hmn
  have H_hsa := Lib.hid hsa; clear hsa
  have H_hsb := Lib.hid hsb; clear hsb
  have H_hda := Lib.hid hda; clear hda
  have H_hdb := Lib.hid hdb; clear hdb
  obtain ⟨g, hg⟩ : ∃ g, g = w.heap.size := ⟨_, rfl⟩
  have bx := boxes3 w #[.bool n1, .int .u64 c1, .int .i64 s1] #[.bool n2, .int .u64 c2, .int .i64 s2] #[.bool n1, .int .u64 c1, .int .i64 s1, .bool n2, .int .u64 c2, .int .i64 s2] 24 24 24 g hg
  have H_bx := Lib.hid bx; clear bx
  have H_h := Lib.hid h; clear h
  have H_hG := Lib.hid hG; clear hG
  have H_hP := Lib.hid hP; clear hP
  have H_hE := Lib.hid hE; clear hE
  go_enter Tryz.func12, Tryz.ntmps12
  go_wp2_with (fail)
  generalize hw1 : ((w.alloc _).alloc _).alloc _ = w1
  rw [← hg]
  obtain ⟨b1, b2, b3, hf, hgs⟩ := H_bx.out w1 hw1
  refine (FixAll_two n1 n2 c1 c2 s1 s2 _ _ b3).mono ?_
  rintro e w2 ⟨rfl, f2⟩
  rw [H_h.out]
  have d1 := row_fresh b1 f2
  have d2 := row_fresh b2 f2
  have hfa := fresh_trans hf f2
  clear b1 b2 b3 hf f2
  have fa := hfa
  have H_d1 := Lib.hid d1; clear d1
  have H_d2 := Lib.hid d2; clear d2
  have H_hw1 := Lib.hid hw1; clear hw1
  have H_hg := Lib.hid hg; clear hg
  have H_hgs := Lib.hid hgs; clear hgs
  have H_hfa := Lib.hid hfa; clear hfa
  have H_fa := Lib.hid fa; clear fa
  go_wp2_with (fail)
  refine wp_region_slots 6 [16, 17, 5, 6] (fun l us w' => ∃ u0 u1 u2 u3 k2 k3, us = [u0, u1, u2, u3] ∧ Fresh w w' ∧ w'.heap[g]? = some (.cells #[.bool n1, .int .u64 c1, .int .i64 s1] 24 (0, 0)) ∧ w'.heap[g + 1]? = some (.cells #[.bool n2, .int .u64 c2, .int .i64 s2] 24 (0, 0)) ∧ (l.getD 0 false = true → u0 = (fx n1 c1 s1)) ∧ (l.getD 1 false = true → u1 = (fx n2 c2 s2)) ∧ (l.getD 2 false = true → u2 = .pointer (some ⟨k2, 0, none⟩) ∧ g + 1 < k2 ∧ ∃ a b c, w'.heap[k2]? = some (.cells #[a, b, c] 24 (0, 0))) ∧ (l.getD 3 false = true → u3 = .pointer (some ⟨k3, 0, none⟩) ∧ g + 1 < k3 ∧ ∃ a b c, w'.heap[k3]? = some (.cells #[a, b, c] 24 (0, 0))) ∧ (l.getD 2 false = true → l.getD 3 false = true → k2 ≠ k3) ∧ (l.getD 4 false = true → l.getD 2 false = true) ∧ (l.getD 5 false = true → l.getD 3 false = true) ∧ (l.getD 4 false = true → w'.heap[k2]? = some (.cells #[.bool n1, .int .u64 c1, .int .i64 s1] 24 (0, 0))) ∧ (l.getD 5 false = true → w'.heap[k3]? = some (.cells #[.bool n2, .int .u64 c2, .int .i64 s2] 24 (0, 0)))) (by kernel_rfl) (by kernel_rfl) [undef, undef, undef, undef] rfl ⟨_, _, _, _, 0, 0, rfl, H_fa.out.drew, by exact H_d1.out, by exact H_d2.out, by simp, by simp, by simp, by simp, by simp, by simp, by simp, by simp, by simp⟩ ?step ?fin
  case step =>
    rintro l us w' i ⟨u0, u1, u2, u3, k2, k3, rfl, hf', dd1, dd2, h0, h1, h2, h3, h6, hc4, hc5, h4, h5⟩ hi hr K hK
    obtain rfl | rfl | rfl | rfl | rfl | rfl : i = 0 ∨ i = 1 ∨ i = 2 ∨ i = 3 ∨ i = 4 ∨ i = 5 := by omega
    · have k0 := row_cell dd1 0
      have k1 := row_cell dd1 1
      have k2' := row_cell dd1 2
      simp at k0 k1 k2'
      have hK0 := hK [(fx n1 c1 s1), u1, u2, u3] w' ⟨_, _, _, _, k2, k3, rfl, hf', dd1, dd2, fun _ => rfl, fun h => h1 (was_up h (by decide)), fun h => h2 (was_up h (by decide)), fun h => h3 (was_up h (by decide)), fun h h' => h6 (was_up h (by decide)) (was_up h' (by decide)), fun h => getD_set_true (hc4 (was_up h (by decide))), fun h => getD_set_true (hc5 (was_up h (by decide))), fun h => h4 (was_up h (by decide)), fun h => h5 (was_up h (by decide))⟩
      have H_hK0 := Lib.hid hK0; clear hK0
      clear hK hf' h0 h1 h2 h3 h6 hc4 hc5 h4 h5 hr dd1 dd2
      refine wpOp_step rfl (fun K' hK' => ?_)
      have H_hK' := Lib.hid hK'; clear hK'
      try simp only [putAll, Act.put, List.getElem_toArray, List.getElem_cons_zero, List.setIfInBounds_toArray, List.set_cons_zero, List.set_cons_succ]
      go_simp
      exact H_hK'.out _ _ H_hK0.out
    · have k0 := row_cell dd2 0
      have k1 := row_cell dd2 1
      have k2' := row_cell dd2 2
      simp at k0 k1 k2'
      have hK0 := hK [u0, (fx n2 c2 s2), u2, u3] w' ⟨_, _, _, _, k2, k3, rfl, hf', dd1, dd2, fun h => h0 (was_up h (by decide)), fun _ => rfl, fun h => h2 (was_up h (by decide)), fun h => h3 (was_up h (by decide)), fun h h' => h6 (was_up h (by decide)) (was_up h' (by decide)), fun h => getD_set_true (hc4 (was_up h (by decide))), fun h => getD_set_true (hc5 (was_up h (by decide))), fun h => h4 (was_up h (by decide)), fun h => h5 (was_up h (by decide))⟩
      have H_hK0 := Lib.hid hK0; clear hK0
      clear hK hf' h0 h1 h2 h3 h6 hc4 hc5 h4 h5 hr dd1 dd2
      refine wpOp_step rfl (fun K' hK' => ?_)
      have H_hK' := Lib.hid hK'; clear hK'
      try simp only [putAll, Act.put, List.getElem_toArray, List.getElem_cons_zero, List.getElem_cons_succ, List.setIfInBounds_toArray, List.set_cons_zero, List.set_cons_succ]
      go_simp
      exact H_hK'.out _ _ H_hK0.out
    · have hF : Fresh w' (w'.alloc (.cells #[.bool false, .int .u64 0, .int .i64 0] 24)) := (Keep.refl _ _).alloc _
      have hno : l.getD 4 false = true → False := fun h => by
        have h1 := getD_tf (hc4 h)
        rw [(mem_ready.1 hr).1] at h1
        cases h1
      have hK0 := hK [u0, u1, (.pointer (some ⟨w'.heap.size, 0, none⟩)), u3] _ ⟨_, _, _, _, w'.heap.size, k3, rfl, fresh_trans hf' hF, row_fresh dd1 hF, row_fresh dd2 hF, fun h => h0 (was_up h (by decide)), fun h => h1 (was_up h (by decide)), fun _ => ⟨rfl, lt_of_row dd2, _, _, _, heap_alloc_new w' _⟩, fun h => ⟨(h3 (was_up h (by decide))).1, (h3 (was_up h (by decide))).2.1, by obtain ⟨a, b, c, hh⟩ := (h3 (was_up h (by decide))).2.2; exact ⟨a, b, c, row_fresh hh hF⟩⟩, fun _ h' => fun e => by obtain ⟨a, b, c, hh⟩ := (h3 (was_up h' (by decide))).2.2; have := lt_of_row hh; omega, fun h => getD_set_true (hc4 (was_up h (by decide))), fun h => getD_set_true (hc5 (was_up h (by decide))), fun h => (hno (was_up h (by decide))).elim, fun h => row_fresh (h5 (was_up h (by decide))) hF⟩
      have H_hK0 := Lib.hid hK0; clear hK0
      clear hK hno hf' h0 h1 h2 h3 h6 hc4 hc5 h4 h5 hr dd1 dd2 hF
      refine wpOp_step rfl (fun K' hK' => ?_)
      have H_hK' := Lib.hid hK'; clear hK'
      try simp only [putAll, Act.put, List.getElem_toArray, List.getElem_cons_zero, List.getElem_cons_succ, List.setIfInBounds_toArray, List.set_cons_zero, List.set_cons_succ]
      go_simp
      exact H_hK'.out _ _ H_hK0.out
    · have hF : Fresh w' (w'.alloc (.cells #[.bool false, .int .u64 0, .int .i64 0] 24)) := (Keep.refl _ _).alloc _
      have hno : l.getD 5 false = true → False := fun h => by
        have h1 := getD_tf (hc5 h)
        rw [(mem_ready.1 hr).1] at h1
        cases h1
      have hK0 := hK [u0, u1, u2, (.pointer (some ⟨w'.heap.size, 0, none⟩))] _ ⟨_, _, _, _, k2, w'.heap.size, rfl, fresh_trans hf' hF, row_fresh dd1 hF, row_fresh dd2 hF, fun h => h0 (was_up h (by decide)), fun h => h1 (was_up h (by decide)), fun h => ⟨(h2 (was_up h (by decide))).1, (h2 (was_up h (by decide))).2.1, by obtain ⟨a, b, c, hh⟩ := (h2 (was_up h (by decide))).2.2; exact ⟨a, b, c, row_fresh hh hF⟩⟩, fun _ => ⟨rfl, lt_of_row dd2, _, _, _, heap_alloc_new w' _⟩, fun h _ => fun e => by obtain ⟨a, b, c, hh⟩ := (h2 (was_up h (by decide))).2.2; have := lt_of_row hh; omega, fun h => getD_set_true (hc4 (was_up h (by decide))), fun h => getD_set_true (hc5 (was_up h (by decide))), fun h => row_fresh (h4 (was_up h (by decide))) hF, fun h => (hno (was_up h (by decide))).elim⟩
      have H_hK0 := Lib.hid hK0; clear hK0
      clear hK hno hf' h0 h1 h2 h3 h6 hc4 hc5 h4 h5 hr dd1 dd2 hF
      refine wpOp_step rfl (fun K' hK' => ?_)
      have H_hK' := Lib.hid hK'; clear hK'
      try simp only [putAll, Act.put, List.getElem_toArray, List.getElem_cons_zero, List.getElem_cons_succ, List.setIfInBounds_toArray, List.set_cons_zero, List.set_cons_succ]
      go_simp
      exact H_hK'.out _ _ H_hK0.out
    · have e0 := h0 (ready_dep hr (by kernel_rfl))
      subst e0
      obtain ⟨rfl, gk2, a2, b2', c2', r2⟩ := h2 (ready_dep hr (by kernel_rfl))
      obtain ⟨rfl, gk3, a3, b3', c3', r3⟩ := h3 (ready_dep hr (by kernel_rfl))
      have hk := h6 (ready_dep hr (by kernel_rfl)) (ready_dep hr (by kernel_rfl))
      have q0 : w'.frozen? ⟨k2, 0, none⟩ = false := frozen_of_row _ _ _ _ _ r2
      have q1 : w'.frozen? ⟨k2, 1, none⟩ = false := frozen_of_row _ _ _ _ _ r2
      have q2 : w'.frozen? ⟨k2, 2, none⟩ = false := frozen_of_row _ _ _ _ _ r2
      have p0 := row_cell r2 0
      have p1 := row_cell r2 1
      have p2 := row_cell r2 2
      simp at p0 p1 p2
      have hgw := H_hg.out
      have hK0 := hK [(fx n1 c1 s1), u1, (.pointer (some ⟨k2, 0, none⟩)), (.pointer (some ⟨k3, 0, none⟩))] (((w'.setCell ⟨k2, 0, none⟩ (.bool n1)).setCell ⟨k2, 1, none⟩ (.int .u64 c1)).setCell ⟨k2, 2, none⟩ (.int .i64 s1)) ⟨_, _, _, _, k2, k3, rfl, hf'.set3 (by omega), row3_ne (by omega) dd1, row3_ne (by omega) dd2, fun _ => rfl, fun h => h1 (was_up h (by decide)), fun _ => ⟨rfl, gk2, _, _, _, row3 r2⟩, fun _ => ⟨rfl, gk3, _, _, _, row3_ne hk r3⟩, fun _ _ => hk, fun _ => getD_set_true (ready_dep hr (by kernel_rfl)), fun h => getD_set_true (hc5 (was_up h (by decide))), fun _ => row3 r2, fun h => row3_ne hk (h5 (was_up h (by decide)))⟩
      have H_hK0 := Lib.hid hK0; clear hK0
      clear hK hf' h0 h1 h2 h3 h6 hc4 hc5 h4 h5 hr dd1 dd2 hk gk2 gk3 r2 r3 hgw
      refine wpOp_step rfl (fun K' hK' => ?_)
      have H_hK' := Lib.hid hK'; clear hK'
      try simp only [putAll, Act.put, List.getElem_toArray, List.getElem_cons_zero, List.getElem_cons_succ, List.setIfInBounds_toArray, List.set_cons_zero, List.set_cons_succ]
      go_simp
      exact H_hK'.out _ _ H_hK0.out
    · have e0 := h1 (ready_dep hr (by kernel_rfl))
      subst e0
      obtain ⟨rfl, gk2, a2, b2', c2', r2⟩ := h2 (ready_dep hr (by kernel_rfl))
      obtain ⟨rfl, gk3, a3, b3', c3', r3⟩ := h3 (ready_dep hr (by kernel_rfl))
      have hk := h6 (ready_dep hr (by kernel_rfl)) (ready_dep hr (by kernel_rfl))
      have q0 : w'.frozen? ⟨k3, 0, none⟩ = false := frozen_of_row _ _ _ _ _ r3
      have q1 : w'.frozen? ⟨k3, 1, none⟩ = false := frozen_of_row _ _ _ _ _ r3
      have q2 : w'.frozen? ⟨k3, 2, none⟩ = false := frozen_of_row _ _ _ _ _ r3
      have p0 := row_cell r3 0
      have p1 := row_cell r3 1
      have p2 := row_cell r3 2
      simp at p0 p1 p2
      have hgw := H_hg.out
      have hK0 := hK [u0, (fx n2 c2 s2), (.pointer (some ⟨k2, 0, none⟩)), (.pointer (some ⟨k3, 0, none⟩))] (((w'.setCell ⟨k3, 0, none⟩ (.bool n2)).setCell ⟨k3, 1, none⟩ (.int .u64 c2)).setCell ⟨k3, 2, none⟩ (.int .i64 s2)) ⟨_, _, _, _, k2, k3, rfl, hf'.set3 (by omega), row3_ne (by omega) dd1, row3_ne (by omega) dd2, fun h => h0 (was_up h (by decide)), fun _ => rfl, fun _ => ⟨rfl, gk2, _, _, _, row3_ne (Ne.symm hk) r2⟩, fun _ => ⟨rfl, gk3, _, _, _, row3 r3⟩, fun _ _ => hk, fun h => getD_set_true (hc4 (was_up h (by decide))), fun _ => getD_set_true (ready_dep hr (by kernel_rfl)), fun h => row3_ne (Ne.symm hk) (h4 (was_up h (by decide))), fun _ => row3 r3⟩
      have H_hK0 := Lib.hid hK0; clear hK0
      clear hK hf' h0 h1 h2 h3 h6 hc4 hc5 h4 h5 hr dd1 dd2 hk gk2 gk3 r2 r3 hgw
      refine wpOp_step rfl (fun K' hK' => ?_)
      have H_hK' := Lib.hid hK'; clear hK'
      try simp only [putAll, Act.put, List.getElem_toArray, List.getElem_cons_zero, List.getElem_cons_succ, List.setIfInBounds_toArray, List.set_cons_zero, List.set_cons_succ]
      go_simp
      exact H_hK'.out _ _ H_hK0.out
  case fin =>
    rintro us w3 ⟨u0, u1, u2, u3, k2, k3, rfl, hf', d1, d2, -, -, h2, h3, h6, -, -, h4, h5⟩
    obtain ⟨rfl, gk2, -⟩ := h2 rfl
    obtain ⟨rfl, gk3, -⟩ := h3 rfl
    have hk := h6 rfl rfl
    have r2 := h4 rfl
    have r3 := h5 rfl
    clear h2 h3 h4 h5 h6 H_fa H_d1 H_d2
    have m0 := row_cell d1 0
    have m1 := row_cell d1 1
    have m2 := row_cell d1 2
    simp at m0 m1 m2
    have m3 := row_cell d2 0
    have m4 := row_cell d2 1
    have m5 := row_cell d2 2
    simp at m3 m4 m5
    have fa := hf'
    clear hf'
    have H_d1 := Lib.hid d1; clear d1
    have H_d2 := Lib.hid d2; clear d2
    have H_hk := Lib.hid hk; clear hk
    have H_gk2 := Lib.hid gk2; clear gk2
    have H_gk3 := Lib.hid gk3; clear gk3
    have H_r2 := Lib.hid r2; clear r2
    have H_r3 := Lib.hid r3; clear r3
    have H_fa := Lib.hid fa; clear fa
    refine wpAny_end (by kernel_rfl) ?_ _
    try simp only [putAll, Act.put, List.setIfInBounds_toArray, List.set_cons_zero, List.set_cons_succ]
    go_wp2_with (fail)
    refine (H_hgt.out _).mono ?_
    rintro e w4 ⟨rfl, f4⟩
    have d1 := row_fresh H_d1.out f4
    have d2 := row_fresh H_d2.out f4
    have r2 := row_fresh H_r2.out f4
    have r3 := row_fresh H_r3.out f4
    have fa := fresh_trans H_fa.out f4
    clear m0 m1 m2 m3 m4 m5 H_d1 H_d2 H_r2 H_r3 H_fa
    have H_f4 := Lib.hid f4; clear f4
    have H_d1 := Lib.hid d1; clear d1
    have H_d2 := Lib.hid d2; clear d2
    have H_r2 := Lib.hid r2; clear r2
    have H_r3 := Lib.hid r3; clear r3
    have H_fa := Lib.hid fa; clear fa
    have d1 := H_d1.out
    have d2 := H_d2.out
    have m0 := row_cell d1 0
    have m1 := row_cell d1 1
    have m2 := row_cell d1 2
    simp at m0 m1 m2
    have m3 := row_cell d2 0
    have m4 := row_cell d2 1
    have m5 := row_cell d2 2
    simp at m3 m4 m5
    clear d1 d2
    go_wp2_with (fail)
    refine (H_hmx.out _ H_fa.out).mono ?_
    rintro e w6 ⟨rfl, f6⟩
    have d1 := row_fresh H_d1.out f6
    have d2 := row_fresh H_d2.out f6
    have r2 := row_fresh H_r2.out f6
    have r3 := row_fresh H_r3.out f6
    have fa := fresh_trans H_fa.out f6
    obtain ⟨h7, hh7⟩ : ∃ h7, h7 = w6.heap.size := ⟨_, rfl⟩
    clear m0 m1 m2 m3 m4 m5 H_d1 H_d2 H_r2 H_r3 H_fa
    have m0 := row_cell d1 0
    have m1 := row_cell d1 1
    have m2 := row_cell d1 2
    simp at m0 m1 m2
    have m3 := row_cell d2 0
    have m4 := row_cell d2 1
    have m5 := row_cell d2 2
    simp at m3 m4 m5
    have a0 := fun o => cell_fresh m0 ((Keep.refl (fun _ => False) w6).alloc o)
    have a1 := fun o => cell_fresh m1 ((Keep.refl (fun _ => False) w6).alloc o)
    have a2 := fun o => cell_fresh m2 ((Keep.refl (fun _ => False) w6).alloc o)
    have a3 := fun o => cell_fresh m3 ((Keep.refl (fun _ => False) w6).alloc o)
    have a4 := fun o => cell_fresh m4 ((Keep.refl (fun _ => False) w6).alloc o)
    have a5 := fun o => cell_fresh m5 ((Keep.refl (fun _ => False) w6).alloc o)
    clear m0 m1 m2 m3 m4 m5
    have H_f6 := Lib.hid f6; clear f6
    have H_d1 := Lib.hid d1; clear d1
    have H_d2 := Lib.hid d2; clear d2
    have H_r2 := Lib.hid r2; clear r2
    have H_r3 := Lib.hid r3; clear r3
    have H_fa := Lib.hid fa; clear fa
    have H_hh7 := Lib.hid hh7; clear hh7
    go_wp2_with (fail)
    generalize hw7 : w6.alloc _ = w7
    have f7 : Fresh w6 w7 := by rw [← hw7]; exact (Keep.refl _ _).alloc _
    have e7 : w7.heap[h7]? = some (.cells #[.bool na, .int .u64 ca, .int .i64 sa] 24 (0, 0)) := by rw [← hw7, H_hh7.out]; exact heap_alloc_new w6 _
    rw [← H_hh7.out]
    have r2 := row_fresh H_r2.out f7
    have r3 := row_fresh H_r3.out f7
    have fa := fresh_trans H_fa.out f7
    clear a0 a1 a2 a3 a4 a5 H_d1 H_d2 H_r2 H_r3 H_fa
    have H_hw7 := Lib.hid hw7; clear hw7
    have H_f7 := Lib.hid f7; clear f7
    have H_e7 := Lib.hid e7; clear e7
    have H_r2 := Lib.hid r2; clear r2
    have H_r3 := Lib.hid r3; clear r3
    have H_fa := Lib.hid fa; clear fa
    refine (H_hmn.out _ H_fa.out).mono ?_
    rintro e w8 ⟨rfl, f8⟩
    have e7 := row_fresh H_e7.out f8
    have r2 := row_fresh H_r2.out f8
    have r3 := row_fresh H_r3.out f8
    have fa := fresh_trans H_fa.out f8
    obtain ⟨h9, hh9⟩ : ∃ h9, h9 = w8.heap.size := ⟨_, rfl⟩
    clear H_e7 H_r2 H_r3 H_fa
    have H_f8 := Lib.hid f8; clear f8
    have H_e7 := Lib.hid e7; clear e7
    have H_r2 := Lib.hid r2; clear r2
    have H_r3 := Lib.hid r3; clear r3
    have H_fa := Lib.hid fa; clear fa
    have H_hh9 := Lib.hid hh9; clear hh9
    go_wp2_with (fail)
    generalize hw9 : w8.alloc _ = w9
    have f9 : Fresh w8 w9 := by rw [← hw9]; exact (Keep.refl _ _).alloc _
    have e9 : w9.heap[h9]? = some (.cells #[.bool nb, .int .u64 cb, .int .i64 sb] 24 (0, 0)) := by rw [← hw9, H_hh9.out]; exact heap_alloc_new w8 _
    rw [← H_hh9.out]
    have e7 := row_fresh H_e7.out f9
    have r2 := row_fresh H_r2.out f9
    have r3 := row_fresh H_r3.out f9
    have fa := fresh_trans H_fa.out f9
    clear H_e7 H_r2 H_r3 H_fa
    have t0 := row_cell r2 0
    have t1 := row_cell r2 1
    have t2 := row_cell r2 2
    have t3 := row_cell r3 0
    have t4 := row_cell r3 1
    have t5 := row_cell r3 2
    have t6 := row_cell e7 0
    have t7 := row_cell e7 1
    have t8 := row_cell e7 2
    have t9 := row_cell e9 0
    have t10 := row_cell e9 1
    have t11 := row_cell e9 2
    simp at t0 t1 t2 t3 t4 t5 t6 t7 t8 t9 t10 t11
    have H_hw9 := Lib.hid hw9; clear hw9
    have H_f9 := Lib.hid f9; clear f9
    have H_e9 := Lib.hid e9; clear e9
    have H_e7 := Lib.hid e7; clear e7
    have H_r2 := Lib.hid r2; clear r2
    have H_r3 := Lib.hid r3; clear r3
    have H_fa := Lib.hid fa; clear fa
    go_region_held3 (fun (w' : World) => w'.cell? ⟨k2, 0, none⟩ = some (.bool n1) ∧ w'.cell? ⟨k2, 1, none⟩ = some (.int .u64 c1) ∧ w'.cell? ⟨k2, 2, none⟩ = some (.int .i64 s1) ∧ w'.cell? ⟨k3, 0, none⟩ = some (.bool n2) ∧ w'.cell? ⟨k3, 1, none⟩ = some (.int .u64 c2) ∧ w'.cell? ⟨k3, 2, none⟩ = some (.int .i64 s2) ∧ w'.cell? ⟨h7, 0, none⟩ = some (.bool na) ∧ w'.cell? ⟨h7, 1, none⟩ = some (.int .u64 ca) ∧ w'.cell? ⟨h7, 2, none⟩ = some (.int .i64 sa) ∧ w'.cell? ⟨h9, 0, none⟩ = some (.bool nb) ∧ w'.cell? ⟨h9, 1, none⟩ = some (.int .u64 cb) ∧ w'.cell? ⟨h9, 2, none⟩ = some (.int .i64 sb)) (first | exact ⟨t0, t1, t2, t3, t4, t5, t6, t7, t8, t9, t10, t11⟩ | exact ⟨z2_0, z2_1, z2_2, z2_3, z2_4, z2_5, z2_6, z2_7, z2_8, z2_9, z2_10, z2_11⟩ | exact ⟨z4_0, z4_1, z4_2, z4_3, z4_4, z4_5, z4_6, z4_7, z4_8, z4_9, z4_10, z4_11⟩ | exact ⟨z6_0, z6_1, z6_2, z6_3, z6_4, z6_5, z6_6, z6_7, z6_8, z6_9, z6_10, z6_11⟩ | exact ⟨z8_0, z8_1, z8_2, z8_3, z8_4, z8_5, z8_6, z8_7, z8_8, z8_9, z8_10, z8_11⟩ | exact ⟨z10_0, z10_1, z10_2, z10_3, z10_4, z10_5, z10_6, z10_7, z10_8, z10_9, z10_10, z10_11⟩) (first
        | (go_at_call 41; (with_reducible refine (H_hda.out _).mono ?_); rintro e y1_ ⟨gx, rfl, hsgx, r⟩; have hy : Fresh w9 y1_ := (by first | exact r | exact r.of_drew | exact r.of_drewN); have z2_0 := cell_fresh t0 hy; have z2_1 := cell_fresh t1 hy; have z2_2 := cell_fresh t2 hy; have z2_3 := cell_fresh t3 hy; have z2_4 := cell_fresh t4 hy; have z2_5 := cell_fresh t5 hy; have z2_6 := cell_fresh t6 hy; have z2_7 := cell_fresh t7 hy; have z2_8 := cell_fresh t8 hy; have z2_9 := cell_fresh t9 hy; have z2_10 := cell_fresh t10 hy; have z2_11 := cell_fresh t11 hy; have fy1_ := hy; have H_fy1_ := Lib.hid fy1_; have H_hygx := Lib.hid hy; have H_hsgx := Lib.hid hsgx; clear r hy hsgx fy1_)
        | (go_at_call 40; (with_reducible refine (H_hsa.out _ _ H_hsgx.out).mono ?_); rintro e y3_ ⟨rfl, r⟩; have hy : Fresh y1_ y3_ := r; have z4_0 := cell_fresh z2_0 hy; have z4_1 := cell_fresh z2_1 hy; have z4_2 := cell_fresh z2_2 hy; have z4_3 := cell_fresh z2_3 hy; have z4_4 := cell_fresh z2_4 hy; have z4_5 := cell_fresh z2_5 hy; have z4_6 := cell_fresh z2_6 hy; have z4_7 := cell_fresh z2_7 hy; have z4_8 := cell_fresh z2_8 hy; have z4_9 := cell_fresh z2_9 hy; have z4_10 := cell_fresh z2_10 hy; have z4_11 := cell_fresh z2_11 hy; have fy3_ := fresh_trans H_fy1_.out hy; have H_fy3_ := Lib.hid fy3_; clear r hy fy3_)
        | (go_at_call 41; (with_reducible refine (H_hdb.out _).mono ?_); rintro e y5_ ⟨hx, rfl, hshx, r⟩; have hy : Fresh y3_ y5_ := r; have z6_0 := cell_fresh z4_0 hy; have z6_1 := cell_fresh z4_1 hy; have z6_2 := cell_fresh z4_2 hy; have z6_3 := cell_fresh z4_3 hy; have z6_4 := cell_fresh z4_4 hy; have z6_5 := cell_fresh z4_5 hy; have z6_6 := cell_fresh z4_6 hy; have z6_7 := cell_fresh z4_7 hy; have z6_8 := cell_fresh z4_8 hy; have z6_9 := cell_fresh z4_9 hy; have z6_10 := cell_fresh z4_10 hy; have z6_11 := cell_fresh z4_11 hy; have fy5_ := fresh_trans H_fy3_.out hy; have H_fy5_ := Lib.hid fy5_; have H_hyhx := Lib.hid hy; have H_hshx := Lib.hid hshx; clear r hy hshx fy5_)
        | (go_at_call 40; (with_reducible refine (H_hsb.out _ _ H_hshx.out).mono ?_); rintro e y7_ ⟨rfl, r⟩; have hy : Fresh y5_ y7_ := r; have z8_0 := cell_fresh z6_0 hy; have z8_1 := cell_fresh z6_1 hy; have z8_2 := cell_fresh z6_2 hy; have z8_3 := cell_fresh z6_3 hy; have z8_4 := cell_fresh z6_4 hy; have z8_5 := cell_fresh z6_5 hy; have z8_6 := cell_fresh z6_6 hy; have z8_7 := cell_fresh z6_7 hy; have z8_8 := cell_fresh z6_8 hy; have z8_9 := cell_fresh z6_9 hy; have z8_10 := cell_fresh z6_10 hy; have z8_11 := cell_fresh z6_11 hy; have fy7_ := fresh_trans H_fy5_.out hy; have H_fy7_ := Lib.hid fy7_; clear r hy fy7_)
        | (go_at_call 21; (with_reducible refine (gvLives_any _).mono ?_); rintro e y9_ ⟨rfl, r⟩; have hy : Fresh y7_ y9_ := r; have z10_0 := cell_fresh z8_0 hy; have z10_1 := cell_fresh z8_1 hy; have z10_2 := cell_fresh z8_2 hy; have z10_3 := cell_fresh z8_3 hy; have z10_4 := cell_fresh z8_4 hy; have z10_5 := cell_fresh z8_5 hy; have z10_6 := cell_fresh z8_6 hy; have z10_7 := cell_fresh z8_7 hy; have z10_8 := cell_fresh z8_8 hy; have z10_9 := cell_fresh z8_9 hy; have z10_10 := cell_fresh z8_10 hy; have z10_11 := cell_fresh z8_11 hy; have fy9_ := fresh_trans H_fy7_.out hy; have H_fy9_ := Lib.hid fy9_; clear r hy fy9_))
    go_wp2
    go_ret
    exact ⟨by rfl, fresh_trans H_fa.out H_fy9_.out⟩

theorem zfix_of_zcmp {n1 n2 : Bool} {c1 c2 s : Nat} (h : zcmp n1 c1 s n2 c2 s = 0) : zfix n1 c1 = zfix n2 c2 := by
  unfold zcmp cmpZ at h
  have hp : (0 : Int) < ((10 ^ s : Nat) : Int) := by exact_mod_cast Nat.pow_pos (by omega)
  generalize ((10 ^ s : Nat) : Int) = p at *
  split at h
  · omega
  · split at h
    · omega
    · rename_i h1 h2
      exact Int.eq_of_mul_eq_mul_right (by omega) (Int.le_antisymm (Int.not_lt.1 h2) (Int.not_lt.1 h1))

theorem FnFixEnds_main (n1 n2 : Bool) (c1 s1 c2 s2 : Nat) (w : World) (hG : Glob w) (hP : Pow10s w) (hE : ErrIs w) (hs1 : s1 ≤ 19) (hs2 : s2 ≤ 19) (hc1 : c1 ≤ 9999999999999999999) (hc2 : c2 ≤ 9999999999999999999) :
    Calls Tryz.prog 12 #[fx n1 c1 s1, fx n2 c2 s2] w (VRet w (.bool true)) := by
  have hm : ∀ W, Fresh w W → Calls Tryz.prog 106 #[gd (n1 && decide (0 < c1)) s1 c1, gd (n2 && decide (0 < c2)) s2 c2] W (VRet W (.int .i64 (ctot (zcmp n1 c1 s1 n2 c2 s2) s1 s2))) := fun W h => by
    have := CmpTotal_any (n1 && decide (0 < c1)) (n2 && decide (0 < c2)) c1 s1 c2 s2 W (hG.fresh h) (hP.fresh h) (hE.fresh h) hs1 hs2 hc1 hc2 canon_pos canon_pos
    rw [zcmp_canon] at this
    exact this
  have hgt := fun W => gvTotal_any n1 n2 c1 s1 c2 s2 W hs1 hs2 hc1 hc2
  have h0 : ctot (zcmp n1 c1 s1 n2 c2 s2) s1 s2 = 0 → zfix n1 c1 = zfix n2 c2 ∧ s1 = s2 := fun h => by
    unfold ctot at h
    rcases zcmp_cases n1 c1 s1 n2 c2 s2 with e | e | e <;> rw [e] at h
    · simp at h
    · simp at h
    · rw [if_neg (by omega), if_neg (by omega)] at h
      have hs : s1 = s2 := by
        split at h
        · omega
        · split at h <;> omega
      subst hs
      exact ⟨zfix_of_zcmp e, rfl⟩
  generalize ctot (zcmp n1 c1 s1 n2 c2 s2) s1 s2 = z at *
  have hmx : ∀ W, Fresh w W → ∀ W2, Fresh W W2 → Calls Tryz.prog 78 #[gd (n1 && decide (0 < c1)) s1 c1, gd (n2 && decide (0 < c2)) s2 c2] W2 (VRet W2 (if 0 ≤ z then gd (n1 && decide (0 < c1)) s1 c1 else gd (n2 && decide (0 < c2)) s2 c2)) := fun W hW W2 hW2 =>
    Max_any _ _ c1 s1 c2 s2 z W2 (fun W3 h3 => hm W3 (fresh_trans hW (fresh_trans hW2 h3)))
  have hmn : ∀ W, Fresh w W → ∀ W2, Fresh W W2 → Calls Tryz.prog 80 #[gd (n1 && decide (0 < c1)) s1 c1, gd (n2 && decide (0 < c2)) s2 c2] W2 (VRet W2 (if z ≤ 0 then gd (n1 && decide (0 < c1)) s1 c1 else gd (n2 && decide (0 < c2)) s2 c2)) := fun W hW W2 hW2 =>
    Min_any _ _ c1 s1 c2 s2 z W2 (fun W3 h3 => hm W3 (fresh_trans hW (fresh_trans hW2 h3)))
  have same1 := fun W x (hx : DecIs W x (zfix n1 c1) s1) => FixSame_dec (n1 && decide (0 < c1)) c1 s1 x W hs1 hc1 canon_pos (by rw [zfix_canon]; exact hx)
  have same2 := fun W x (hx : DecIs W x (zfix n2 c2) s2) => FixSame_dec (n2 && decide (0 < c2)) c2 s2 x W hs2 hc2 canon_pos (by rw [zfix_canon]; exact hx)
  rcases Int.lt_trichotomy z 0 with h | h | h
  · rw [if_neg (by omega)] at hmx
    rw [if_pos (by omega)] at hmn
    exact FnFixEnds_lt n1 n2 c1 s1 c2 s2 w hs1 hs2 hc1 hc2 z h _ _ _ _ _ _ hgt (fun W hW => FixMax_any n1 n2 _ s1 c1 s2 c2 _ _ W hs1 hc1 hs2 hc2 hs2 (hmx W hW)) (fun W hW => FixMin_any n1 n2 _ s1 c1 s2 c2 _ _ W hs1 hc1 hs2 hc2 hs1 (hmn W hW)) same2 same1
  · rw [if_pos (by omega)] at hmx
    rw [if_pos (by omega)] at hmn
    obtain ⟨e1, e2⟩ := h0 h
    exact FnFixEnds_ge n1 n2 c1 s1 c2 s2 w hs1 hs2 hc1 hc2 z (by omega) _ _ _ _ _ _ hgt (fun W hW => FixMax_any n1 n2 _ s1 c1 s2 c2 _ _ W hs1 hc1 hs2 hc2 hs1 (hmx W hW)) (fun W hW => FixMin_any n1 n2 _ s1 c1 s2 c2 _ _ W hs1 hc1 hs2 hc2 hs1 (hmn W hW)) same1 (fun W x hx => same1 W x (by rw [e1, e2]; exact hx))
  · rw [if_pos (by omega)] at hmx
    rw [if_neg (by omega)] at hmn
    exact FnFixEnds_ge n1 n2 c1 s1 c2 s2 w hs1 hs2 hc1 hc2 z (by omega) _ _ _ _ _ _ hgt (fun W hW => FixMax_any n1 n2 _ s1 c1 s2 c2 _ _ W hs1 hc1 hs2 hc2 hs1 (hmx W hW)) (fun W hW => FixMin_any n1 n2 _ s1 c1 s2 c2 _ _ W hs1 hc1 hs2 hc2 hs2 (hmn W hW)) same1 same2

end Go.Proofs.YtibaeafmgncjdaaGreatDoor
