/- govalues' decimals in the order of all forms: CmpTotal. -/
import Derived.Test.YtibaeafmgncjdaaGreatDoorK23
namespace Go.Proofs.YtibaeafmgncjdaaGreatDoor
open Go.RowKit

set_option maxRecDepth 20000 in
set_option maxHeartbeats 4000000 in
theorem CmpTotal_m (n1 n2 : Bool) (c1 s1 c2 s2 : Nat) (w : World) (hG : Glob w) (hP : Pow10s w) (hE : ErrIs w) (hs1 : s1 ≤ 19) (hs2 : s2 ≤ 19) (hc1 : c1 ≤ 9999999999999999999) (hc2 : c2 ≤ 9999999999999999999) (h1 : n1 = true → 0 < c1) (h2 : n2 = true → 0 < c2) (hz : zcmp n1 c1 s1 n2 c2 s2 = -1) :
    Calls Tryz.prog 106 #[gd n1 s1 c1, gd n2 s2 c2] w (VRet w (.int .i64 (ctot (zcmp n1 c1 s1 n2 c2 s2) s1 s2))) := by
  have hc := fun W (hW : Fresh w W) => Cmp_any n1 n2 c1 s1 c2 s2 W (hG.fresh hW) (hP.fresh hW) (hE.fresh hW) hs1 hs2 hc1 hc2 h1 h2
  rw [hz] at hc ⊢
  rw [show ctot (-1) s1 s2 = -1 from rfl]
  clear hz
  obtain ⟨g, hg⟩ : ∃ g, g = w.heap.size := ⟨_, rfl⟩
  have bx := boxes2 w #[.bool n1, .int .i8 s1, .int .u64 c1] #[.bool n2, .int .i8 s2, .int .u64 c2] 62 62 g hg
  have H_bx := Lib.hid bx; clear bx
  have H_hc := Lib.hid hc; clear hc
  have H_hG := Lib.hid hG; clear hG
  have H_hP := Lib.hid hP; clear hP
  have H_hE := Lib.hid hE; clear hE
  have H_h1 := Lib.hid h1; clear h1
  have H_h2 := Lib.hid h2; clear h2
  go_enter Tryz.func106, Tryz.ntmps106
  go_wp2_with (fail)
  generalize hw1 : (w.alloc _).alloc _ = w1
  rw [← hg]
  obtain ⟨b1, b2, hf⟩ := H_bx.out w1 hw1
  have k0 := row_cell b1 0
  have k1 := row_cell b1 1
  have k2 := row_cell b1 2
  simp at k0 k1 k2
  have k3 := row_cell b2 0
  have k4 := row_cell b2 1
  have k5 := row_cell b2 2
  simp at k3 k4 k5
  have H_b1 := Lib.hid b1; clear b1
  have H_b2 := Lib.hid b2; clear b2
  have H_hf := Lib.hid hf; clear hf
  have H_hw1 := Lib.hid hw1; clear hw1
  have H_hg := Lib.hid hg; clear hg
  refine (H_hc.out _ H_hf.out).mono ?_
  rintro e w2 ⟨rfl, f2⟩
  have H_f2 := Lib.hid f2
  clear f2
  go_wp2_with (fail)
  go_ret
  exact ⟨rfl, fresh_trans H_hf.out H_f2.out⟩

set_option maxRecDepth 20000 in
set_option maxHeartbeats 4000000 in
theorem CmpTotal_p (n1 n2 : Bool) (c1 s1 c2 s2 : Nat) (w : World) (hG : Glob w) (hP : Pow10s w) (hE : ErrIs w) (hs1 : s1 ≤ 19) (hs2 : s2 ≤ 19) (hc1 : c1 ≤ 9999999999999999999) (hc2 : c2 ≤ 9999999999999999999) (h1 : n1 = true → 0 < c1) (h2 : n2 = true → 0 < c2) (hz : zcmp n1 c1 s1 n2 c2 s2 = 1) :
    Calls Tryz.prog 106 #[gd n1 s1 c1, gd n2 s2 c2] w (VRet w (.int .i64 (ctot (zcmp n1 c1 s1 n2 c2 s2) s1 s2))) := by
  have hc := fun W (hW : Fresh w W) => Cmp_any n1 n2 c1 s1 c2 s2 W (hG.fresh hW) (hP.fresh hW) (hE.fresh hW) hs1 hs2 hc1 hc2 h1 h2
  rw [hz] at hc ⊢
  rw [show ctot 1 s1 s2 = 1 from rfl]
  clear hz
  obtain ⟨g, hg⟩ : ∃ g, g = w.heap.size := ⟨_, rfl⟩
  have bx := boxes2 w #[.bool n1, .int .i8 s1, .int .u64 c1] #[.bool n2, .int .i8 s2, .int .u64 c2] 62 62 g hg
  have H_bx := Lib.hid bx; clear bx
  have H_hc := Lib.hid hc; clear hc
  have H_hG := Lib.hid hG; clear hG
  have H_hP := Lib.hid hP; clear hP
  have H_hE := Lib.hid hE; clear hE
  have H_h1 := Lib.hid h1; clear h1
  have H_h2 := Lib.hid h2; clear h2
  go_enter Tryz.func106, Tryz.ntmps106
  go_wp2_with (fail)
  generalize hw1 : (w.alloc _).alloc _ = w1
  rw [← hg]
  obtain ⟨b1, b2, hf⟩ := H_bx.out w1 hw1
  have k0 := row_cell b1 0
  have k1 := row_cell b1 1
  have k2 := row_cell b1 2
  simp at k0 k1 k2
  have k3 := row_cell b2 0
  have k4 := row_cell b2 1
  have k5 := row_cell b2 2
  simp at k3 k4 k5
  have H_b1 := Lib.hid b1; clear b1
  have H_b2 := Lib.hid b2; clear b2
  have H_hf := Lib.hid hf; clear hf
  have H_hw1 := Lib.hid hw1; clear hw1
  have H_hg := Lib.hid hg; clear hg
  refine (H_hc.out _ H_hf.out).mono ?_
  rintro e w2 ⟨rfl, f2⟩
  have H_f2 := Lib.hid f2
  clear f2
  go_wp2_with (fail)
  go_ret
  exact ⟨rfl, fresh_trans H_hf.out H_f2.out⟩

set_option maxRecDepth 20000 in
set_option maxHeartbeats 4000000 in
theorem CmpTotal_g (n1 n2 : Bool) (c1 s1 c2 s2 : Nat) (w : World) (hG : Glob w) (hP : Pow10s w) (hE : ErrIs w) (hs1 : s1 ≤ 19) (hs2 : s2 ≤ 19) (hc1 : c1 ≤ 9999999999999999999) (hc2 : c2 ≤ 9999999999999999999) (h1 : n1 = true → 0 < c1) (h2 : n2 = true → 0 < c2) (hz : zcmp n1 c1 s1 n2 c2 s2 = 0 ∧ s2 < s1) :
    Calls Tryz.prog 106 #[gd n1 s1 c1, gd n2 s2 c2] w (VRet w (.int .i64 (ctot (zcmp n1 c1 s1 n2 c2 s2) s1 s2))) := by
  have hc := fun W (hW : Fresh w W) => Cmp_any n1 n2 c1 s1 c2 s2 W (hG.fresh hW) (hP.fresh hW) (hE.fresh hW) hs1 hs2 hc1 hc2 h1 h2
  obtain ⟨hz, hlt⟩ := hz
  rw [hz] at hc ⊢
  rw [show ctot 0 s1 s2 = -1 by unfold ctot; rw [if_neg (by omega), if_neg (by omega), if_pos hlt]]
  have t1 : decide ((s2 : Int) < (s1 : Int)) = true := by simp; omega
  clear hz
  obtain ⟨g, hg⟩ : ∃ g, g = w.heap.size := ⟨_, rfl⟩
  have bx := boxes2 w #[.bool n1, .int .i8 s1, .int .u64 c1] #[.bool n2, .int .i8 s2, .int .u64 c2] 62 62 g hg
  have H_bx := Lib.hid bx; clear bx
  have H_hc := Lib.hid hc; clear hc
  have H_hG := Lib.hid hG; clear hG
  have H_hP := Lib.hid hP; clear hP
  have H_hE := Lib.hid hE; clear hE
  have H_h1 := Lib.hid h1; clear h1
  have H_h2 := Lib.hid h2; clear h2
  go_enter Tryz.func106, Tryz.ntmps106
  go_wp2_with (fail)
  generalize hw1 : (w.alloc _).alloc _ = w1
  rw [← hg]
  obtain ⟨b1, b2, hf⟩ := H_bx.out w1 hw1
  have k0 := row_cell b1 0
  have k1 := row_cell b1 1
  have k2 := row_cell b1 2
  simp at k0 k1 k2
  have k3 := row_cell b2 0
  have k4 := row_cell b2 1
  have k5 := row_cell b2 2
  simp at k3 k4 k5
  have H_b1 := Lib.hid b1; clear b1
  have H_b2 := Lib.hid b2; clear b2
  have H_hf := Lib.hid hf; clear hf
  have H_hw1 := Lib.hid hw1; clear hw1
  have H_hg := Lib.hid hg; clear hg
  refine (H_hc.out _ H_hf.out).mono ?_
  rintro e w2 ⟨rfl, f2⟩
  have m0 := cell_fresh k0 f2
  have m1 := cell_fresh k1 f2
  have m2 := cell_fresh k2 f2
  have m3 := cell_fresh k3 f2
  have m4 := cell_fresh k4 f2
  have m5 := cell_fresh k5 f2
  clear k0 k1 k2 k3 k4 k5
  have H_f2 := Lib.hid f2
  clear f2
  go_wp2_with (fail)
  go_region_held3 (fun (w' : World) => w'.cell? ⟨g, 0, none⟩ = some (.bool n1) ∧ w'.cell? ⟨g, 1, none⟩ = some (.int .i8 s1) ∧ w'.cell? ⟨g, 2, none⟩ = some (.int .u64 c1) ∧ w'.cell? ⟨g + 1, 0, none⟩ = some (.bool n2) ∧ w'.cell? ⟨g + 1, 1, none⟩ = some (.int .i8 s2) ∧ w'.cell? ⟨g + 1, 2, none⟩ = some (.int .u64 c2)) (first | exact ⟨m0, m1, m2, m3, m4, m5⟩ | exact ⟨z22_0, z22_1, z22_2, z22_3, z22_4, z22_5⟩ | exact ⟨z24_0, z24_1, z24_2, z24_3, z24_4, z24_5⟩) (first
    | (go_at_call 93; (with_reducible refine (Scale_any n1 s1 c1 _ hs1).mono ?_); rintro e y21_ ⟨rfl, r⟩; have hy : Fresh w2 y21_ := (by first | exact r | exact r.of_drew | exact r.of_drewN); have z22_0 := cell_fresh m0 hy; have z22_1 := cell_fresh m1 hy; have z22_2 := cell_fresh m2 hy; have z22_3 := cell_fresh m3 hy; have z22_4 := cell_fresh m4 hy; have z22_5 := cell_fresh m5 hy; have fy21_ := hy; have H_fy21_ := Lib.hid fy21_; clear r hy fy21_)
    | (go_at_call 93; (with_reducible refine (Scale_any n2 s2 c2 _ hs2).mono ?_); rintro e y23_ ⟨rfl, r⟩; have hy : Fresh y21_ y23_ := r; have z24_0 := cell_fresh z22_0 hy; have z24_1 := cell_fresh z22_1 hy; have z24_2 := cell_fresh z22_2 hy; have z24_3 := cell_fresh z22_3 hy; have z24_4 := cell_fresh z22_4 hy; have z24_5 := cell_fresh z22_5 hy; have fy23_ := fresh_trans H_fy21_.out hy; have H_fy23_ := Lib.hid fy23_; clear r hy fy23_))
  have Fy23_ := H_fy23_.out
  have H_Fy23_ := Lib.hid Fy23_
  clear Fy23_
  go_wp2_with (fail)
  go_ret
  exact ⟨rfl, fresh_trans (fresh_trans H_hf.out H_f2.out) H_Fy23_.out⟩

set_option maxRecDepth 20000 in
set_option maxHeartbeats 4000000 in
theorem CmpTotal_l (n1 n2 : Bool) (c1 s1 c2 s2 : Nat) (w : World) (hG : Glob w) (hP : Pow10s w) (hE : ErrIs w) (hs1 : s1 ≤ 19) (hs2 : s2 ≤ 19) (hc1 : c1 ≤ 9999999999999999999) (hc2 : c2 ≤ 9999999999999999999) (h1 : n1 = true → 0 < c1) (h2 : n2 = true → 0 < c2) (hz : zcmp n1 c1 s1 n2 c2 s2 = 0 ∧ s1 < s2) :
    Calls Tryz.prog 106 #[gd n1 s1 c1, gd n2 s2 c2] w (VRet w (.int .i64 (ctot (zcmp n1 c1 s1 n2 c2 s2) s1 s2))) := by
  have hc := fun W (hW : Fresh w W) => Cmp_any n1 n2 c1 s1 c2 s2 W (hG.fresh hW) (hP.fresh hW) (hE.fresh hW) hs1 hs2 hc1 hc2 h1 h2
  obtain ⟨hz, hlt⟩ := hz
  rw [hz] at hc ⊢
  rw [show ctot 0 s1 s2 = 1 by unfold ctot; rw [if_neg (by omega), if_neg (by omega), if_neg (by omega), if_pos hlt]]
  have hn0 : ¬ s2 < s1 := by omega
  have t0 : decide ((s2 : Int) < (s1 : Int)) = false := by simp; omega
  have t1 : decide ((s1 : Int) < (s2 : Int)) = true := by simp; omega
  clear hz
  obtain ⟨g, hg⟩ : ∃ g, g = w.heap.size := ⟨_, rfl⟩
  have bx := boxes2 w #[.bool n1, .int .i8 s1, .int .u64 c1] #[.bool n2, .int .i8 s2, .int .u64 c2] 62 62 g hg
  have H_bx := Lib.hid bx; clear bx
  have H_hc := Lib.hid hc; clear hc
  have H_hG := Lib.hid hG; clear hG
  have H_hP := Lib.hid hP; clear hP
  have H_hE := Lib.hid hE; clear hE
  have H_h1 := Lib.hid h1; clear h1
  have H_h2 := Lib.hid h2; clear h2
  go_enter Tryz.func106, Tryz.ntmps106
  go_wp2_with (fail)
  generalize hw1 : (w.alloc _).alloc _ = w1
  rw [← hg]
  obtain ⟨b1, b2, hf⟩ := H_bx.out w1 hw1
  have k0 := row_cell b1 0
  have k1 := row_cell b1 1
  have k2 := row_cell b1 2
  simp at k0 k1 k2
  have k3 := row_cell b2 0
  have k4 := row_cell b2 1
  have k5 := row_cell b2 2
  simp at k3 k4 k5
  have H_b1 := Lib.hid b1; clear b1
  have H_b2 := Lib.hid b2; clear b2
  have H_hf := Lib.hid hf; clear hf
  have H_hw1 := Lib.hid hw1; clear hw1
  have H_hg := Lib.hid hg; clear hg
  refine (H_hc.out _ H_hf.out).mono ?_
  rintro e w2 ⟨rfl, f2⟩
  have m0 := cell_fresh k0 f2
  have m1 := cell_fresh k1 f2
  have m2 := cell_fresh k2 f2
  have m3 := cell_fresh k3 f2
  have m4 := cell_fresh k4 f2
  have m5 := cell_fresh k5 f2
  clear k0 k1 k2 k3 k4 k5
  have H_f2 := Lib.hid f2
  clear f2
  go_wp2_with (fail)
  go_region_held3 (fun (w' : World) => w'.cell? ⟨g, 0, none⟩ = some (.bool n1) ∧ w'.cell? ⟨g, 1, none⟩ = some (.int .i8 s1) ∧ w'.cell? ⟨g, 2, none⟩ = some (.int .u64 c1) ∧ w'.cell? ⟨g + 1, 0, none⟩ = some (.bool n2) ∧ w'.cell? ⟨g + 1, 1, none⟩ = some (.int .i8 s2) ∧ w'.cell? ⟨g + 1, 2, none⟩ = some (.int .u64 c2)) (first | exact ⟨m0, m1, m2, m3, m4, m5⟩ | exact ⟨z26_0, z26_1, z26_2, z26_3, z26_4, z26_5⟩ | exact ⟨z28_0, z28_1, z28_2, z28_3, z28_4, z28_5⟩) (first
    | (go_at_call 93; (with_reducible refine (Scale_any n1 s1 c1 _ hs1).mono ?_); rintro e y25_ ⟨rfl, r⟩; have hy : Fresh w2 y25_ := (by first | exact r | exact r.of_drew | exact r.of_drewN); have z26_0 := cell_fresh m0 hy; have z26_1 := cell_fresh m1 hy; have z26_2 := cell_fresh m2 hy; have z26_3 := cell_fresh m3 hy; have z26_4 := cell_fresh m4 hy; have z26_5 := cell_fresh m5 hy; have fy25_ := hy; have H_fy25_ := Lib.hid fy25_; clear r hy fy25_)
    | (go_at_call 93; (with_reducible refine (Scale_any n2 s2 c2 _ hs2).mono ?_); rintro e y27_ ⟨rfl, r⟩; have hy : Fresh y25_ y27_ := r; have z28_0 := cell_fresh z26_0 hy; have z28_1 := cell_fresh z26_1 hy; have z28_2 := cell_fresh z26_2 hy; have z28_3 := cell_fresh z26_3 hy; have z28_4 := cell_fresh z26_4 hy; have z28_5 := cell_fresh z26_5 hy; have fy27_ := fresh_trans H_fy25_.out hy; have H_fy27_ := Lib.hid fy27_; clear r hy fy27_))
  have Fy27_ := H_fy27_.out
  have H_Fy27_ := Lib.hid Fy27_
  clear Fy27_
  go_wp2_with (fail)
  go_region_held3 (fun (w' : World) => w'.cell? ⟨g, 0, none⟩ = some (.bool n1) ∧ w'.cell? ⟨g, 1, none⟩ = some (.int .i8 s1) ∧ w'.cell? ⟨g, 2, none⟩ = some (.int .u64 c1) ∧ w'.cell? ⟨g + 1, 0, none⟩ = some (.bool n2) ∧ w'.cell? ⟨g + 1, 1, none⟩ = some (.int .i8 s2) ∧ w'.cell? ⟨g + 1, 2, none⟩ = some (.int .u64 c2)) (first | exact ⟨z28_0, z28_1, z28_2, z28_3, z28_4, z28_5⟩ | exact ⟨z30_0, z30_1, z30_2, z30_3, z30_4, z30_5⟩ | exact ⟨z32_0, z32_1, z32_2, z32_3, z32_4, z32_5⟩) (first
    | (go_at_call 93; (with_reducible refine (Scale_any n1 s1 c1 _ hs1).mono ?_); rintro e y29_ ⟨rfl, r⟩; have hy : Fresh y27_ y29_ := (by first | exact r | exact r.of_drew | exact r.of_drewN); have z30_0 := cell_fresh z28_0 hy; have z30_1 := cell_fresh z28_1 hy; have z30_2 := cell_fresh z28_2 hy; have z30_3 := cell_fresh z28_3 hy; have z30_4 := cell_fresh z28_4 hy; have z30_5 := cell_fresh z28_5 hy; have fy29_ := hy; have H_fy29_ := Lib.hid fy29_; clear r hy fy29_)
    | (go_at_call 93; (with_reducible refine (Scale_any n2 s2 c2 _ hs2).mono ?_); rintro e y31_ ⟨rfl, r⟩; have hy : Fresh y29_ y31_ := r; have z32_0 := cell_fresh z30_0 hy; have z32_1 := cell_fresh z30_1 hy; have z32_2 := cell_fresh z30_2 hy; have z32_3 := cell_fresh z30_3 hy; have z32_4 := cell_fresh z30_4 hy; have z32_5 := cell_fresh z30_5 hy; have fy31_ := fresh_trans H_fy29_.out hy; have H_fy31_ := Lib.hid fy31_; clear r hy fy31_))
  have Fy31_ := fresh_trans H_Fy27_.out H_fy31_.out
  have H_Fy31_ := Lib.hid Fy31_
  clear Fy31_
  go_wp2_with (fail)
  go_ret
  exact ⟨rfl, fresh_trans (fresh_trans H_hf.out H_f2.out) H_Fy31_.out⟩

set_option maxRecDepth 20000 in
set_option maxHeartbeats 4000000 in
theorem CmpTotal_e (n1 n2 : Bool) (c1 s1 c2 s2 : Nat) (w : World) (hG : Glob w) (hP : Pow10s w) (hE : ErrIs w) (hs1 : s1 ≤ 19) (hs2 : s2 ≤ 19) (hc1 : c1 ≤ 9999999999999999999) (hc2 : c2 ≤ 9999999999999999999) (h1 : n1 = true → 0 < c1) (h2 : n2 = true → 0 < c2) (hz : zcmp n1 c1 s1 n2 c2 s2 = 0 ∧ s1 = s2) :
    Calls Tryz.prog 106 #[gd n1 s1 c1, gd n2 s2 c2] w (VRet w (.int .i64 (ctot (zcmp n1 c1 s1 n2 c2 s2) s1 s2))) := by
  have hc := fun W (hW : Fresh w W) => Cmp_any n1 n2 c1 s1 c2 s2 W (hG.fresh hW) (hP.fresh hW) (hE.fresh hW) hs1 hs2 hc1 hc2 h1 h2
  obtain ⟨hz, hlt⟩ := hz
  rw [hz] at hc ⊢
  subst hlt
  rw [show ctot 0 s1 s1 = 0 by unfold ctot; rw [if_neg (by omega), if_neg (by omega), if_neg (by omega), if_neg (by omega)]]
  have t1 : decide ((s1 : Int) < (s1 : Int)) = false := by simp
  clear hz
  obtain ⟨g, hg⟩ : ∃ g, g = w.heap.size := ⟨_, rfl⟩
  have bx := boxes2 w #[.bool n1, .int .i8 s1, .int .u64 c1] #[.bool n2, .int .i8 s1, .int .u64 c2] 62 62 g hg
  have H_bx := Lib.hid bx; clear bx
  have H_hc := Lib.hid hc; clear hc
  have H_hG := Lib.hid hG; clear hG
  have H_hP := Lib.hid hP; clear hP
  have H_hE := Lib.hid hE; clear hE
  have H_h1 := Lib.hid h1; clear h1
  have H_h2 := Lib.hid h2; clear h2
  go_enter Tryz.func106, Tryz.ntmps106
  go_wp2_with (fail)
  generalize hw1 : (w.alloc _).alloc _ = w1
  rw [← hg]
  obtain ⟨b1, b2, hf⟩ := H_bx.out w1 hw1
  have k0 := row_cell b1 0
  have k1 := row_cell b1 1
  have k2 := row_cell b1 2
  simp at k0 k1 k2
  have k3 := row_cell b2 0
  have k4 := row_cell b2 1
  have k5 := row_cell b2 2
  simp at k3 k4 k5
  have H_b1 := Lib.hid b1; clear b1
  have H_b2 := Lib.hid b2; clear b2
  have H_hf := Lib.hid hf; clear hf
  have H_hw1 := Lib.hid hw1; clear hw1
  have H_hg := Lib.hid hg; clear hg
  refine (H_hc.out _ H_hf.out).mono ?_
  rintro e w2 ⟨rfl, f2⟩
  have m0 := cell_fresh k0 f2
  have m1 := cell_fresh k1 f2
  have m2 := cell_fresh k2 f2
  have m3 := cell_fresh k3 f2
  have m4 := cell_fresh k4 f2
  have m5 := cell_fresh k5 f2
  clear k0 k1 k2 k3 k4 k5
  have H_f2 := Lib.hid f2
  clear f2
  go_wp2_with (fail)
  go_region_held3 (fun (w' : World) => w'.cell? ⟨g, 0, none⟩ = some (.bool n1) ∧ w'.cell? ⟨g, 1, none⟩ = some (.int .i8 s1) ∧ w'.cell? ⟨g, 2, none⟩ = some (.int .u64 c1) ∧ w'.cell? ⟨g + 1, 0, none⟩ = some (.bool n2) ∧ w'.cell? ⟨g + 1, 1, none⟩ = some (.int .i8 s1) ∧ w'.cell? ⟨g + 1, 2, none⟩ = some (.int .u64 c2)) (first | exact ⟨m0, m1, m2, m3, m4, m5⟩ | exact ⟨z34_0, z34_1, z34_2, z34_3, z34_4, z34_5⟩ | exact ⟨z36_0, z36_1, z36_2, z36_3, z36_4, z36_5⟩) (first
    | (go_at_call 93; (with_reducible refine (Scale_any n1 s1 c1 _ hs1).mono ?_); rintro e y33_ ⟨rfl, r⟩; have hy : Fresh w2 y33_ := (by first | exact r | exact r.of_drew | exact r.of_drewN); have z34_0 := cell_fresh m0 hy; have z34_1 := cell_fresh m1 hy; have z34_2 := cell_fresh m2 hy; have z34_3 := cell_fresh m3 hy; have z34_4 := cell_fresh m4 hy; have z34_5 := cell_fresh m5 hy; have fy33_ := hy; have H_fy33_ := Lib.hid fy33_; clear r hy fy33_)
    | (go_at_call 93; (with_reducible refine (Scale_any n2 s1 c2 _ hs2).mono ?_); rintro e y35_ ⟨rfl, r⟩; have hy : Fresh y33_ y35_ := r; have z36_0 := cell_fresh z34_0 hy; have z36_1 := cell_fresh z34_1 hy; have z36_2 := cell_fresh z34_2 hy; have z36_3 := cell_fresh z34_3 hy; have z36_4 := cell_fresh z34_4 hy; have z36_5 := cell_fresh z34_5 hy; have fy35_ := fresh_trans H_fy33_.out hy; have H_fy35_ := Lib.hid fy35_; clear r hy fy35_))
  have Fy35_ := H_fy35_.out
  have H_Fy35_ := Lib.hid Fy35_
  clear Fy35_
  go_wp2_with (fail)
  go_region_held3 (fun (w' : World) => w'.cell? ⟨g, 0, none⟩ = some (.bool n1) ∧ w'.cell? ⟨g, 1, none⟩ = some (.int .i8 s1) ∧ w'.cell? ⟨g, 2, none⟩ = some (.int .u64 c1) ∧ w'.cell? ⟨g + 1, 0, none⟩ = some (.bool n2) ∧ w'.cell? ⟨g + 1, 1, none⟩ = some (.int .i8 s1) ∧ w'.cell? ⟨g + 1, 2, none⟩ = some (.int .u64 c2)) (first | exact ⟨z36_0, z36_1, z36_2, z36_3, z36_4, z36_5⟩ | exact ⟨z38_0, z38_1, z38_2, z38_3, z38_4, z38_5⟩ | exact ⟨z40_0, z40_1, z40_2, z40_3, z40_4, z40_5⟩) (first
    | (go_at_call 93; (with_reducible refine (Scale_any n1 s1 c1 _ hs1).mono ?_); rintro e y37_ ⟨rfl, r⟩; have hy : Fresh y35_ y37_ := (by first | exact r | exact r.of_drew | exact r.of_drewN); have z38_0 := cell_fresh z36_0 hy; have z38_1 := cell_fresh z36_1 hy; have z38_2 := cell_fresh z36_2 hy; have z38_3 := cell_fresh z36_3 hy; have z38_4 := cell_fresh z36_4 hy; have z38_5 := cell_fresh z36_5 hy; have fy37_ := hy; have H_fy37_ := Lib.hid fy37_; clear r hy fy37_)
    | (go_at_call 93; (with_reducible refine (Scale_any n2 s1 c2 _ hs2).mono ?_); rintro e y39_ ⟨rfl, r⟩; have hy : Fresh y37_ y39_ := r; have z40_0 := cell_fresh z38_0 hy; have z40_1 := cell_fresh z38_1 hy; have z40_2 := cell_fresh z38_2 hy; have z40_3 := cell_fresh z38_3 hy; have z40_4 := cell_fresh z38_4 hy; have z40_5 := cell_fresh z38_5 hy; have fy39_ := fresh_trans H_fy37_.out hy; have H_fy39_ := Lib.hid fy39_; clear r hy fy39_))
  have Fy39_ := fresh_trans H_Fy35_.out H_fy39_.out
  have H_Fy39_ := Lib.hid Fy39_
  clear Fy39_
  go_wp2_with (fail)
  go_ret
  exact ⟨rfl, fresh_trans (fresh_trans H_hf.out H_f2.out) H_Fy39_.out⟩

theorem CmpTotal_any (n1 n2 : Bool) (c1 s1 c2 s2 : Nat) (w : World) (hG : Glob w) (hP : Pow10s w) (hE : ErrIs w) (hs1 : s1 ≤ 19) (hs2 : s2 ≤ 19) (hc1 : c1 ≤ 9999999999999999999) (hc2 : c2 ≤ 9999999999999999999) (h1 : n1 = true → 0 < c1) (h2 : n2 = true → 0 < c2) :
    Calls Tryz.prog 106 #[gd n1 s1 c1, gd n2 s2 c2] w (VRet w (.int .i64 (ctot (zcmp n1 c1 s1 n2 c2 s2) s1 s2))) := by
  rcases zcmp_cases n1 c1 s1 n2 c2 s2 with h | h | h
  · exact CmpTotal_m n1 n2 c1 s1 c2 s2 w hG hP hE hs1 hs2 hc1 hc2 h1 h2 h
  · exact CmpTotal_p n1 n2 c1 s1 c2 s2 w hG hP hE hs1 hs2 hc1 hc2 h1 h2 h
  · rcases Nat.lt_trichotomy s1 s2 with k | k | k
    · exact CmpTotal_l n1 n2 c1 s1 c2 s2 w hG hP hE hs1 hs2 hc1 hc2 h1 h2 ⟨h, k⟩
    · exact CmpTotal_e n1 n2 c1 s1 c2 s2 w hG hP hE hs1 hs2 hc1 hc2 h1 h2 ⟨h, k⟩
    · exact CmpTotal_g n1 n2 c1 s1 c2 s2 w hG hP hE hs1 hs2 hc1 hc2 h1 h2 ⟨h, k⟩

end Go.Proofs.YtibaeafmgncjdaaGreatDoor
