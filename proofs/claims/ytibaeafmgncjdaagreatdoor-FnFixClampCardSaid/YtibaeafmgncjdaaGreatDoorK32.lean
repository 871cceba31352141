/- FnFixClamp's walk. -/
import Derived.Test.YtibaeafmgncjdaaGreatDoorK12
import Derived.Test.YtibaeafmgncjdaaGreatDoorK23
import Derived.Test.YtibaeafmgncjdaaGreatDoorK31
namespace Go.Proofs.YtibaeafmgncjdaaGreatDoor
open Go.RowKit

set_option maxRecDepth 20000 in
set_option maxHeartbeats 2000000 in
theorem FnFixClamp_out (n1 n2 n3 : Bool) (c1 c2 c3 : Nat) (s1 s2 s3 : Int) (w : World) (h : (fixIs c1 s1 && (fixIs c2 s2 && fixIs c3 s3)) = false) :
    Calls Tryz.prog 11 #[.agg #[.bool n1, .int .u64 c1, .int .i64 s1], .agg #[.bool n2, .int .u64 c2, .int .i64 s2], .agg #[.bool n3, .int .u64 c3, .int .i64 s3]] w (VRet w (.bool true)) := by
  obtain ⟨g, hg⟩ : ∃ g, g = w.heap.size := ⟨_, rfl⟩
  have bx := boxes4 w #[.bool n1, .int .u64 c1, .int .i64 s1] #[.bool n2, .int .u64 c2, .int .i64 s2] #[.bool n3, .int .u64 c3, .int .i64 s3] #[.bool n1, .int .u64 c1, .int .i64 s1, .bool n2, .int .u64 c2, .int .i64 s2, .bool n3, .int .u64 c3, .int .i64 s3] 24 24 24 24 g hg
  have H_bx := Lib.hid bx; clear bx
  have H_h := Lib.hid h; clear h
  go_enter Tryz.func11, Tryz.ntmps11
  go_wp2_with (fail)
  generalize hw1 : (((w.alloc _).alloc _).alloc _).alloc _ = w1
  rw [← hg]
  obtain ⟨d1, d2, d3, d4, fa⟩ := H_bx.out w1 hw1
  refine (FixAll_three n1 n2 n3 c1 c2 c3 s1 s2 s3 _ _ d4).mono ?_
  rintro e w2 ⟨rfl, f2⟩
  rw [H_h.out]
  have H_d1 := Lib.hid d1; clear d1
  have H_d2 := Lib.hid d2; clear d2
  have H_d3 := Lib.hid d3; clear d3
  have H_d4 := Lib.hid d4; clear d4
  have H_fa := Lib.hid fa; clear fa
  have H_hw1 := Lib.hid hw1; clear hw1
  have H_hg := Lib.hid hg; clear hg
  have H_f2 := Lib.hid f2; clear f2
  go_wp2_with (fail)
  go_ret
  exact ⟨rfl, fresh_trans H_fa.out H_f2.out⟩

set_option maxRecDepth 100000 in
set_option maxHeartbeats 8000000 in
theorem FnFixClamp_err (n1 n2 n3 : Bool) (c1 s1 c2 s2 c3 s3 : Nat) (w : World) (hs1 : s1 ≤ 19) (hs2 : s2 ≤ 19) (hs3 : s3 ≤ 19) (hc1 : c1 ≤ 9999999999999999999) (hc2 : c2 ≤ 9999999999999999999) (hc3 : c3 ≤ 9999999999999999999) (zeg : Int) (teg : 0 < zeg)
    (hcl : ∀ W, Fresh w W → Calls Tryz.prog 35 #[fx n1 c1 s1, fx n2 c2 s2, fx n3 c3 s3] W (VRet W (.tuple #[.agg #[.bool false, .int .u64 0, .int .i64 0], .int .i64 1])))
    (hzeg : ∀ W x y, SFr W x (zfix n2 c2) (10 ^ s2) → SFr W y (zfix n3 c3) (10 ^ s3) → Calls Tryz.prog 19 #[x, y] W (IRet W zeg)) :
    Calls Tryz.prog 11 #[fx n1 c1 s1, fx n2 c2 s2, fx n3 c3 s3] w (VRet w (.bool true)) := by
  have h : (fixIs c1 s1 && (fixIs c2 s2 && fixIs c3 s3)) = true := by unfold fixIs; simp; omega
  have hn1 := fun W => FixNum_any n1 c1 s1 W hs1 hc1
  have hn2 := fun W => FixNum_any n2 c2 s2 W hs2 hc2
  have hn3 := fun W => FixNum_any n3 c3 s3 W hs3 hc3
  have teg' : decide (0 < zeg) = true := by simpa using teg
  obtain ⟨g, hg⟩ : ∃ g, g = w.heap.size := ⟨_, rfl⟩
  have bx := boxes4 w #[.bool n1, .int .u64 c1, .int .i64 s1] #[.bool n2, .int .u64 c2, .int .i64 s2] #[.bool n3, .int .u64 c3, .int .i64 s3] #[.bool n1, .int .u64 c1, .int .i64 s1, .bool n2, .int .u64 c2, .int .i64 s2, .bool n3, .int .u64 c3, .int .i64 s3] 24 24 24 24 g hg
  have H_bx := Lib.hid bx; clear bx
  have H_h := Lib.hid h; clear h
  have H_hcl := Lib.hid hcl; clear hcl
  have H_hn1 := Lib.hid hn1; clear hn1
  have H_hn2 := Lib.hid hn2; clear hn2
  have H_hn3 := Lib.hid hn3; clear hn3
  have H_hzeg := Lib.hid hzeg; clear hzeg
  go_enter Tryz.func11, Tryz.ntmps11
  go_wp2_with (fail)
  generalize hw1 : (((w.alloc _).alloc _).alloc _).alloc _ = w1
  rw [← hg]
  obtain ⟨d1, d2, d3, d4, fa⟩ := H_bx.out w1 hw1
  refine (FixAll_three n1 n2 n3 c1 c2 c3 s1 s2 s3 _ _ d4).mono ?_
  rintro e w2 ⟨rfl, f2⟩
  rw [H_h.out]
  have H_d1 := Lib.hid d1; clear d1
  have H_d2 := Lib.hid d2; clear d2
  have H_d3 := Lib.hid d3; clear d3
  have H_fa := Lib.hid fa; clear fa
  have H_hw1 := Lib.hid hw1; clear hw1
  have H_hg := Lib.hid hg; clear hg
  clear d4
  have d1 := row_fresh H_d1.out f2
  have d2 := row_fresh H_d2.out f2
  have d3 := row_fresh H_d3.out f2
  have fa := fresh_trans H_fa.out f2
  have m0 := row_cell d1 0
  have m1 := row_cell d1 1
  have m2 := row_cell d1 2
  have m3 := row_cell d2 0
  have m4 := row_cell d2 1
  have m5 := row_cell d2 2
  have m6 := row_cell d3 0
  have m7 := row_cell d3 1
  have m8 := row_cell d3 2
  simp at m0 m1 m2 m3 m4 m5 m6 m7 m8
  have H_f2 := Lib.hid f2; clear f2
  clear H_d1 H_d2 H_d3 H_fa
  have H_d1 := Lib.hid d1; clear d1
  have H_d2 := Lib.hid d2; clear d2
  have H_d3 := Lib.hid d3; clear d3
  have H_fa := Lib.hid fa; clear fa
  go_wp2_with (fail)
  refine (H_hcl.out _ H_fa.out).mono ?_
  rintro e w3 ⟨rfl, f3⟩
  have d1 := row_fresh H_d1.out f3
  have d2 := row_fresh H_d2.out f3
  have d3 := row_fresh H_d3.out f3
  have fa := fresh_trans H_fa.out f3
  clear m0 m1 m2 m3 m4 m5 m6 m7 m8
  obtain ⟨h7, hh7⟩ : ∃ h, h = w3.heap.size := ⟨_, rfl⟩
  have H_f3 := Lib.hid f3; clear f3
  have H_hh7 := Lib.hid hh7; clear hh7
  clear H_d1 H_d2 H_d3 H_fa
  have H_d1 := Lib.hid d1; clear d1
  have H_d2 := Lib.hid d2; clear d2
  have H_d3 := Lib.hid d3; clear d3
  have H_fa := Lib.hid fa; clear fa
  go_wp2_with (fail)
  generalize hw4 : w3.alloc _ = w4
  have f4 : Fresh w3 w4 := by rw [← hw4]; exact (Keep.refl _ _).alloc _
  have r7 : w4.heap[h7]? = some (.cells #[.bool false, .int .u64 0, .int .i64 0] 24 (0, 0)) := by rw [← hw4, H_hh7.out]; exact heap_alloc_new w3 _
  rw [← H_hh7.out]
  have d1 := row_fresh H_d1.out f4
  have d2 := row_fresh H_d2.out f4
  have d3 := row_fresh H_d3.out f4
  have fa := fresh_trans H_fa.out f4
  have m0 := row_cell d2 0
  have m1 := row_cell d2 1
  have m2 := row_cell d2 2
  have m3 := row_cell d3 0
  have m4 := row_cell d3 1
  have m5 := row_cell d3 2
  simp at m0 m1 m2 m3 m4 m5
  have H_f4 := Lib.hid f4; clear f4
  have H_hw4 := Lib.hid hw4; clear hw4
  clear H_d1 H_d2 H_d3 H_fa
  have H_d1 := Lib.hid d1; clear d1
  have H_d2 := Lib.hid d2; clear d2
  have H_d3 := Lib.hid d3; clear d3
  have H_r7 := Lib.hid r7; clear r7
  have H_fa := Lib.hid fa; clear fa
  go_region_held3 (fun (w' : World) => w'.cell? ⟨g + 1, 0, none⟩ = some (.bool n2) ∧ w'.cell? ⟨g + 1, 1, none⟩ = some (.int .u64 c2) ∧ w'.cell? ⟨g + 1, 2, none⟩ = some (.int .i64 s2) ∧ w'.cell? ⟨g + 1 + 1, 0, none⟩ = some (.bool n3) ∧ w'.cell? ⟨g + 1 + 1, 1, none⟩ = some (.int .u64 c3) ∧ w'.cell? ⟨g + 1 + 1, 2, none⟩ = some (.int .i64 s3)) (first | exact ⟨m0, m1, m2, m3, m4, m5⟩ | exact ⟨z102_0, z102_1, z102_2, z102_3, z102_4, z102_5⟩ | exact ⟨z104_0, z104_1, z104_2, z104_3, z104_4, z104_5⟩ | exact ⟨z106_0, z106_1, z106_2, z106_3, z106_4, z106_5⟩) (first
    | (go_at_call 14; (with_reducible refine (H_hn2.out _).mono ?_); rintro e y101_ ⟨xa, rfl, hsxa, r⟩; have hy : Fresh w4 y101_ := (by first | exact r | exact r.of_drew | exact r.of_drewN); have z102_0 := cell_fresh m0 hy; have z102_1 := cell_fresh m1 hy; have z102_2 := cell_fresh m2 hy; have z102_3 := cell_fresh m3 hy; have z102_4 := cell_fresh m4 hy; have z102_5 := cell_fresh m5 hy; have fy101_ := hy; have H_fy101_ := Lib.hid fy101_; have H_hyxa := Lib.hid hy; have H_hsxa := Lib.hid hsxa; clear r hy hsxa fy101_)
    | (go_at_call 14; (with_reducible refine (H_hn3.out _).mono ?_); rintro e y103_ ⟨ya, rfl, hsya, r⟩; have hy : Fresh y101_ y103_ := r; have z104_0 := cell_fresh z102_0 hy; have z104_1 := cell_fresh z102_1 hy; have z104_2 := cell_fresh z102_2 hy; have z104_3 := cell_fresh z102_3 hy; have z104_4 := cell_fresh z102_4 hy; have z104_5 := cell_fresh z102_5 hy; have fy103_ := fresh_trans H_fy101_.out hy; have H_fy103_ := Lib.hid fy103_; have H_hyya := Lib.hid hy; have H_hsya := Lib.hid hsya; clear r hy hsya fy103_)
    | (go_at_call 19; (with_reducible refine (H_hzeg.out _ _ _ (H_hsxa.out.fresh H_hyya.out) H_hsya.out).mono ?_); rintro e y105_ ⟨rfl, r⟩; have hy : Fresh y103_ y105_ := r; have z106_0 := cell_fresh z104_0 hy; have z106_1 := cell_fresh z104_1 hy; have z106_2 := cell_fresh z104_2 hy; have z106_3 := cell_fresh z104_3 hy; have z106_4 := cell_fresh z104_4 hy; have z106_5 := cell_fresh z104_5 hy; have fy105_ := fresh_trans H_fy103_.out hy; have H_fy105_ := Lib.hid fy105_; clear r hy fy105_))
  clear z106_0 z106_1 z106_2 z106_3 z106_4 z106_5
  have d1 := row_fresh H_d1.out H_fy105_.out
  have d2 := row_fresh H_d2.out H_fy105_.out
  have d3 := row_fresh H_d3.out H_fy105_.out
  have r7 := row_fresh H_r7.out H_fy105_.out
  have fa := fresh_trans H_fa.out H_fy105_.out
  clear H_d1 H_d2 H_d3 H_r7 H_fa
  have H_d1 := Lib.hid d1; clear d1
  have H_d2 := Lib.hid d2; clear d2
  have H_d3 := Lib.hid d3; clear d3
  have H_r7 := Lib.hid r7; clear r7
  have H_fa := Lib.hid fa; clear fa
  go_wp2_with (fail)
  go_ret
  exact ⟨by rfl, H_fa.out⟩

set_option maxRecDepth 100000 in
set_option maxHeartbeats 8000000 in
theorem FnFixClamp_e (n1 n2 n3 nr : Bool) (c1 s1 c2 s2 c3 s3 cr sr : Nat) (w : World) (hs1 : s1 ≤ 19) (hs2 : s2 ≤ 19) (hs3 : s3 ≤ 19) (hc1 : c1 ≤ 9999999999999999999) (hc2 : c2 ≤ 9999999999999999999) (hc3 : c3 ≤ 9999999999999999999) (zeg : Int) (teg : ¬ 0 < zeg) (zde : Int) (tde : zde < 0)
    (hcl : ∀ W, Fresh w W → Calls Tryz.prog 35 #[fx n1 c1 s1, fx n2 c2 s2, fx n3 c3 s3] W (VRet W (.tuple #[fx nr cr sr, .int .i64 0])))
    (hzeg : ∀ W x y, SFr W x (zfix n2 c2) (10 ^ s2) → SFr W y (zfix n3 c3) (10 ^ s3) → Calls Tryz.prog 19 #[x, y] W (IRet W zeg)) (hzde : ∀ W x y, SFr W x (zfix n1 c1) (10 ^ s1) → SFr W y (zfix n2 c2) (10 ^ s2) → Calls Tryz.prog 19 #[x, y] W (IRet W zde)) (hhas : ∀ W x, SFr W x (zfix n2 c2) (10 ^ s2) → Calls Tryz.prog 36 #[fx nr cr sr, x] W (VRet W (.bool true))) :
    Calls Tryz.prog 11 #[fx n1 c1 s1, fx n2 c2 s2, fx n3 c3 s3] w (VRet w (.bool true)) := by
  have h : (fixIs c1 s1 && (fixIs c2 s2 && fixIs c3 s3)) = true := by unfold fixIs; simp; omega
  have hn1 := fun W => FixNum_any n1 c1 s1 W hs1 hc1
  have hn2 := fun W => FixNum_any n2 c2 s2 W hs2 hc2
  have hn3 := fun W => FixNum_any n3 c3 s3 W hs3 hc3
  have teg' : decide (0 < zeg) = false := by simpa using teg
  have tde' : decide (zde < 0) = true := by simpa using tde
  obtain ⟨g, hg⟩ : ∃ g, g = w.heap.size := ⟨_, rfl⟩
  have bx := boxes4 w #[.bool n1, .int .u64 c1, .int .i64 s1] #[.bool n2, .int .u64 c2, .int .i64 s2] #[.bool n3, .int .u64 c3, .int .i64 s3] #[.bool n1, .int .u64 c1, .int .i64 s1, .bool n2, .int .u64 c2, .int .i64 s2, .bool n3, .int .u64 c3, .int .i64 s3] 24 24 24 24 g hg
  have H_bx := Lib.hid bx; clear bx
  have H_h := Lib.hid h; clear h
  have H_hcl := Lib.hid hcl; clear hcl
  have H_hn1 := Lib.hid hn1; clear hn1
  have H_hn2 := Lib.hid hn2; clear hn2
  have H_hn3 := Lib.hid hn3; clear hn3
  have H_hzeg := Lib.hid hzeg; clear hzeg
  have H_hzde := Lib.hid hzde; clear hzde
  have H_hhas := Lib.hid hhas; clear hhas
  go_enter Tryz.func11, Tryz.ntmps11
  go_wp2_with (fail)
  generalize hw1 : (((w.alloc _).alloc _).alloc _).alloc _ = w1
  rw [← hg]
  obtain ⟨d1, d2, d3, d4, fa⟩ := H_bx.out w1 hw1
  refine (FixAll_three n1 n2 n3 c1 c2 c3 s1 s2 s3 _ _ d4).mono ?_
  rintro e w2 ⟨rfl, f2⟩
  rw [H_h.out]
  have H_d1 := Lib.hid d1; clear d1
  have H_d2 := Lib.hid d2; clear d2
  have H_d3 := Lib.hid d3; clear d3
  have H_fa := Lib.hid fa; clear fa
  have H_hw1 := Lib.hid hw1; clear hw1
  have H_hg := Lib.hid hg; clear hg
  clear d4
  have d1 := row_fresh H_d1.out f2
  have d2 := row_fresh H_d2.out f2
  have d3 := row_fresh H_d3.out f2
  have fa := fresh_trans H_fa.out f2
  have m0 := row_cell d1 0
  have m1 := row_cell d1 1
  have m2 := row_cell d1 2
  have m3 := row_cell d2 0
  have m4 := row_cell d2 1
  have m5 := row_cell d2 2
  have m6 := row_cell d3 0
  have m7 := row_cell d3 1
  have m8 := row_cell d3 2
  simp at m0 m1 m2 m3 m4 m5 m6 m7 m8
  have H_f2 := Lib.hid f2; clear f2
  clear H_d1 H_d2 H_d3 H_fa
  have H_d1 := Lib.hid d1; clear d1
  have H_d2 := Lib.hid d2; clear d2
  have H_d3 := Lib.hid d3; clear d3
  have H_fa := Lib.hid fa; clear fa
  go_wp2_with (fail)
  refine (H_hcl.out _ H_fa.out).mono ?_
  rintro e w3 ⟨rfl, f3⟩
  have d1 := row_fresh H_d1.out f3
  have d2 := row_fresh H_d2.out f3
  have d3 := row_fresh H_d3.out f3
  have fa := fresh_trans H_fa.out f3
  clear m0 m1 m2 m3 m4 m5 m6 m7 m8
  obtain ⟨h7, hh7⟩ : ∃ h, h = w3.heap.size := ⟨_, rfl⟩
  have H_f3 := Lib.hid f3; clear f3
  have H_hh7 := Lib.hid hh7; clear hh7
  clear H_d1 H_d2 H_d3 H_fa
  have H_d1 := Lib.hid d1; clear d1
  have H_d2 := Lib.hid d2; clear d2
  have H_d3 := Lib.hid d3; clear d3
  have H_fa := Lib.hid fa; clear fa
  go_wp2_with (fail)
  generalize hw4 : w3.alloc _ = w4
  have f4 : Fresh w3 w4 := by rw [← hw4]; exact (Keep.refl _ _).alloc _
  have r7 : w4.heap[h7]? = some (.cells #[.bool nr, .int .u64 cr, .int .i64 sr] 24 (0, 0)) := by rw [← hw4, H_hh7.out]; exact heap_alloc_new w3 _
  rw [← H_hh7.out]
  have d1 := row_fresh H_d1.out f4
  have d2 := row_fresh H_d2.out f4
  have d3 := row_fresh H_d3.out f4
  have fa := fresh_trans H_fa.out f4
  have m0 := row_cell d2 0
  have m1 := row_cell d2 1
  have m2 := row_cell d2 2
  have m3 := row_cell d3 0
  have m4 := row_cell d3 1
  have m5 := row_cell d3 2
  simp at m0 m1 m2 m3 m4 m5
  have H_f4 := Lib.hid f4; clear f4
  have H_hw4 := Lib.hid hw4; clear hw4
  clear H_d1 H_d2 H_d3 H_fa
  have H_d1 := Lib.hid d1; clear d1
  have H_d2 := Lib.hid d2; clear d2
  have H_d3 := Lib.hid d3; clear d3
  have H_r7 := Lib.hid r7; clear r7
  have H_fa := Lib.hid fa; clear fa
  go_region_held3 (fun (w' : World) => w'.cell? ⟨g + 1, 0, none⟩ = some (.bool n2) ∧ w'.cell? ⟨g + 1, 1, none⟩ = some (.int .u64 c2) ∧ w'.cell? ⟨g + 1, 2, none⟩ = some (.int .i64 s2) ∧ w'.cell? ⟨g + 1 + 1, 0, none⟩ = some (.bool n3) ∧ w'.cell? ⟨g + 1 + 1, 1, none⟩ = some (.int .u64 c3) ∧ w'.cell? ⟨g + 1 + 1, 2, none⟩ = some (.int .i64 s3)) (first | exact ⟨m0, m1, m2, m3, m4, m5⟩ | exact ⟨z102_0, z102_1, z102_2, z102_3, z102_4, z102_5⟩ | exact ⟨z104_0, z104_1, z104_2, z104_3, z104_4, z104_5⟩ | exact ⟨z106_0, z106_1, z106_2, z106_3, z106_4, z106_5⟩) (first
    | (go_at_call 14; (with_reducible refine (H_hn2.out _).mono ?_); rintro e y101_ ⟨xa, rfl, hsxa, r⟩; have hy : Fresh w4 y101_ := (by first | exact r | exact r.of_drew | exact r.of_drewN); have z102_0 := cell_fresh m0 hy; have z102_1 := cell_fresh m1 hy; have z102_2 := cell_fresh m2 hy; have z102_3 := cell_fresh m3 hy; have z102_4 := cell_fresh m4 hy; have z102_5 := cell_fresh m5 hy; have fy101_ := hy; have H_fy101_ := Lib.hid fy101_; have H_hyxa := Lib.hid hy; have H_hsxa := Lib.hid hsxa; clear r hy hsxa fy101_)
    | (go_at_call 14; (with_reducible refine (H_hn3.out _).mono ?_); rintro e y103_ ⟨ya, rfl, hsya, r⟩; have hy : Fresh y101_ y103_ := r; have z104_0 := cell_fresh z102_0 hy; have z104_1 := cell_fresh z102_1 hy; have z104_2 := cell_fresh z102_2 hy; have z104_3 := cell_fresh z102_3 hy; have z104_4 := cell_fresh z102_4 hy; have z104_5 := cell_fresh z102_5 hy; have fy103_ := fresh_trans H_fy101_.out hy; have H_fy103_ := Lib.hid fy103_; have H_hyya := Lib.hid hy; have H_hsya := Lib.hid hsya; clear r hy hsya fy103_)
    | (go_at_call 19; (with_reducible refine (H_hzeg.out _ _ _ (H_hsxa.out.fresh H_hyya.out) H_hsya.out).mono ?_); rintro e y105_ ⟨rfl, r⟩; have hy : Fresh y103_ y105_ := r; have z106_0 := cell_fresh z104_0 hy; have z106_1 := cell_fresh z104_1 hy; have z106_2 := cell_fresh z104_2 hy; have z106_3 := cell_fresh z104_3 hy; have z106_4 := cell_fresh z104_4 hy; have z106_5 := cell_fresh z104_5 hy; have fy105_ := fresh_trans H_fy103_.out hy; have H_fy105_ := Lib.hid fy105_; clear r hy fy105_))
  clear z106_0 z106_1 z106_2 z106_3 z106_4 z106_5
  have d1 := row_fresh H_d1.out H_fy105_.out
  have d2 := row_fresh H_d2.out H_fy105_.out
  have d3 := row_fresh H_d3.out H_fy105_.out
  have r7 := row_fresh H_r7.out H_fy105_.out
  have fa := fresh_trans H_fa.out H_fy105_.out
  have m0 := row_cell d1 0
  have m1 := row_cell d1 1
  have m2 := row_cell d1 2
  simp at m0 m1 m2
  obtain ⟨h9, hh9⟩ : ∃ h, h = y105_.heap.size := ⟨_, rfl⟩
  have h79 := lt_of_row r7
  have fsz := fa.size
  have H_hh9 := Lib.hid hh9; clear hh9
  have H_h79 := Lib.hid h79; clear h79
  have H_fsz := Lib.hid fsz; clear fsz
  clear H_d1 H_d2 H_d3 H_r7 H_fa
  have H_d1 := Lib.hid d1; clear d1
  have H_d2 := Lib.hid d2; clear d2
  have H_d3 := Lib.hid d3; clear d3
  have H_r7 := Lib.hid r7; clear r7
  have H_fa := Lib.hid fa; clear fa
  go_wp2_with (fail)
  generalize hw6 : y105_.alloc _ = w6
  have f6 : Fresh y105_ w6 := by rw [← hw6]; exact (Keep.refl _ _).alloc _
  have r9 : w6.heap[h9]? = some (.cells #[.bool n1, .int .u64 c1, .int .i64 s1] 24 (0, 0)) := by rw [← hw6, H_hh9.out]; exact heap_alloc_new y105_ _
  rw [← H_hh9.out]
  have d1 := row_fresh H_d1.out f6
  have d2 := row_fresh H_d2.out f6
  have d3 := row_fresh H_d3.out f6
  have r7 := row_fresh H_r7.out f6
  have fa := fresh_trans H_fa.out f6
  clear m0 m1 m2
  have m0 := row_cell d1 0
  have m1 := row_cell d1 1
  have m2 := row_cell d1 2
  have m3 := row_cell d2 0
  have m4 := row_cell d2 1
  have m5 := row_cell d2 2
  simp at m0 m1 m2 m3 m4 m5
  have H_f6 := Lib.hid f6; clear f6
  have H_hw6 := Lib.hid hw6; clear hw6
  clear H_d1 H_d2 H_d3 H_r7 H_fa
  have H_d1 := Lib.hid d1; clear d1
  have H_d2 := Lib.hid d2; clear d2
  have H_d3 := Lib.hid d3; clear d3
  have H_r7 := Lib.hid r7; clear r7
  have H_r9 := Lib.hid r9; clear r9
  have H_fa := Lib.hid fa; clear fa
  go_region_held3 (fun (w' : World) => w'.cell? ⟨g, 0, none⟩ = some (.bool n1) ∧ w'.cell? ⟨g, 1, none⟩ = some (.int .u64 c1) ∧ w'.cell? ⟨g, 2, none⟩ = some (.int .i64 s1) ∧ w'.cell? ⟨g + 1, 0, none⟩ = some (.bool n2) ∧ w'.cell? ⟨g + 1, 1, none⟩ = some (.int .u64 c2) ∧ w'.cell? ⟨g + 1, 2, none⟩ = some (.int .i64 s2)) (first | exact ⟨m0, m1, m2, m3, m4, m5⟩ | exact ⟨z108_0, z108_1, z108_2, z108_3, z108_4, z108_5⟩ | exact ⟨z110_0, z110_1, z110_2, z110_3, z110_4, z110_5⟩ | exact ⟨z112_0, z112_1, z112_2, z112_3, z112_4, z112_5⟩) (first
    | (go_at_call 14; (with_reducible refine (H_hn1.out _).mono ?_); rintro e y107_ ⟨xb, rfl, hsxb, r⟩; have hy : Fresh w6 y107_ := (by first | exact r | exact r.of_drew | exact r.of_drewN); have z108_0 := cell_fresh m0 hy; have z108_1 := cell_fresh m1 hy; have z108_2 := cell_fresh m2 hy; have z108_3 := cell_fresh m3 hy; have z108_4 := cell_fresh m4 hy; have z108_5 := cell_fresh m5 hy; have fy107_ := hy; have H_fy107_ := Lib.hid fy107_; have H_hyxb := Lib.hid hy; have H_hsxb := Lib.hid hsxb; clear r hy hsxb fy107_)
    | (go_at_call 14; (with_reducible refine (H_hn2.out _).mono ?_); rintro e y109_ ⟨yb, rfl, hsyb, r⟩; have hy : Fresh y107_ y109_ := r; have z110_0 := cell_fresh z108_0 hy; have z110_1 := cell_fresh z108_1 hy; have z110_2 := cell_fresh z108_2 hy; have z110_3 := cell_fresh z108_3 hy; have z110_4 := cell_fresh z108_4 hy; have z110_5 := cell_fresh z108_5 hy; have fy109_ := fresh_trans H_fy107_.out hy; have H_fy109_ := Lib.hid fy109_; have H_hyyb := Lib.hid hy; have H_hsyb := Lib.hid hsyb; clear r hy hsyb fy109_)
    | (go_at_call 19; (with_reducible refine (H_hzde.out _ _ _ (H_hsxb.out.fresh H_hyyb.out) H_hsyb.out).mono ?_); rintro e y111_ ⟨rfl, r⟩; have hy : Fresh y109_ y111_ := r; have z112_0 := cell_fresh z110_0 hy; have z112_1 := cell_fresh z110_1 hy; have z112_2 := cell_fresh z110_2 hy; have z112_3 := cell_fresh z110_3 hy; have z112_4 := cell_fresh z110_4 hy; have z112_5 := cell_fresh z110_5 hy; have fy111_ := fresh_trans H_fy109_.out hy; have H_fy111_ := Lib.hid fy111_; clear r hy fy111_))
  clear z112_0 z112_1 z112_2 z112_3 z112_4 z112_5
  have d1 := row_fresh H_d1.out H_fy111_.out
  have d2 := row_fresh H_d2.out H_fy111_.out
  have d3 := row_fresh H_d3.out H_fy111_.out
  have r7 := row_fresh H_r7.out H_fy111_.out
  have r9 := row_fresh H_r9.out H_fy111_.out
  have fa := fresh_trans H_fa.out H_fy111_.out
  have m0 := row_cell d2 0
  have m1 := row_cell d2 1
  have m2 := row_cell d2 2
  simp at m0 m1 m2
  have o0 := row_cell r9 0
  have o1 := row_cell r9 1
  have o2 := row_cell r9 2
  simp at o0 o1 o2
  have q0 : y111_.frozen? ⟨h9, 0, none⟩ = false := frozen_of_row _ _ _ _ _ r9
  have q1 : y111_.frozen? ⟨h9, 1, none⟩ = false := frozen_of_row _ _ _ _ _ r9
  have q2 : y111_.frozen? ⟨h9, 2, none⟩ = false := frozen_of_row _ _ _ _ _ r9
  clear H_d1 H_d2 H_d3 H_r7 H_r9 H_fa
  have H_d1 := Lib.hid d1; clear d1
  have H_d2 := Lib.hid d2; clear d2
  have H_d3 := Lib.hid d3; clear d3
  have H_r7 := Lib.hid r7; clear r7
  have H_r9 := Lib.hid r9; clear r9
  have H_fa := Lib.hid fa; clear fa
  go_wp2_with (fail)
  clear m0 m1 m2 o0 o1 o2 q0 q1 q2
  generalize hw8 : World.setCell _ _ _ = w8
  have hl9 := lt_of_row H_r9.out
  have e79 : h9 ≠ h7 := by
    have h1 := H_hh9.out
    have h2 := H_h79.out
    omega
  have e9 : w.heap.size ≤ h9 := by
    have h1 := H_hh9.out
    have h2 := H_fsz.out
    omega
  have r9 := row3 (x := .bool n2) (y := .int .u64 c2) (z := .int .i64 s2) H_r9.out
  have r7 := row3_ne (x := .bool n2) (y := .int .u64 c2) (z := .int .i64 s2) e79 H_r7.out
  have fa := H_fa.out.set3 (v1 := .bool n2) (v2 := .int .u64 c2) (v3 := .int .i64 s2) e9 (o1 := 0) (o2 := 1) (o3 := 2)
  rw [hw8] at r9 r7 fa
  have m0 := row_cell r7 0
  have m1 := row_cell r7 1
  have m2 := row_cell r7 2
  have m3 := row_cell r9 0
  have m4 := row_cell r9 1
  have m5 := row_cell r9 2
  simp at m0 m1 m2 m3 m4 m5
  clear H_r7 H_r9 H_fa
  have H_r7 := Lib.hid r7; clear r7
  have H_r9 := Lib.hid r9; clear r9
  have H_fa := Lib.hid fa; clear fa
  have H_hw8 := Lib.hid hw8; clear hw8
  go_region_held3 (fun (w' : World) => w'.cell? ⟨h7, 0, none⟩ = some (.bool nr) ∧ w'.cell? ⟨h7, 1, none⟩ = some (.int .u64 cr) ∧ w'.cell? ⟨h7, 2, none⟩ = some (.int .i64 sr) ∧ w'.cell? ⟨h9, 0, none⟩ = some (.bool n2) ∧ w'.cell? ⟨h9, 1, none⟩ = some (.int .u64 c2) ∧ w'.cell? ⟨h9, 2, none⟩ = some (.int .i64 s2)) (first | exact ⟨m0, m1, m2, m3, m4, m5⟩ | exact ⟨z114_0, z114_1, z114_2, z114_3, z114_4, z114_5⟩ | exact ⟨z116_0, z116_1, z116_2, z116_3, z116_4, z116_5⟩ | exact ⟨z118_0, z118_1, z118_2, z118_3, z118_4, z118_5⟩) (first
    | (go_at_call 14; (with_reducible refine (H_hn2.out _).mono ?_); rintro e y113_ ⟨xd, rfl, hsxd, r⟩; have hy : Fresh w8 y113_ := (by first | exact r | exact r.of_drew | exact r.of_drewN); have z114_0 := cell_fresh m0 hy; have z114_1 := cell_fresh m1 hy; have z114_2 := cell_fresh m2 hy; have z114_3 := cell_fresh m3 hy; have z114_4 := cell_fresh m4 hy; have z114_5 := cell_fresh m5 hy; have fy113_ := hy; have H_fy113_ := Lib.hid fy113_; have H_hyxd := Lib.hid hy; have H_hsxd := Lib.hid hsxd; clear r hy hsxd fy113_)
    | (go_at_call 36; (with_reducible refine (H_hhas.out _ _ H_hsxd.out).mono ?_); rintro e y115_ ⟨rfl, r⟩; have hy : Fresh y113_ y115_ := r; have z116_0 := cell_fresh z114_0 hy; have z116_1 := cell_fresh z114_1 hy; have z116_2 := cell_fresh z114_2 hy; have z116_3 := cell_fresh z114_3 hy; have z116_4 := cell_fresh z114_4 hy; have z116_5 := cell_fresh z114_5 hy; have fy115_ := fresh_trans H_fy113_.out hy; have H_fy115_ := Lib.hid fy115_; clear r hy fy115_)
    | (go_at_call 21; (with_reducible refine (gvLives_any _).mono ?_); rintro e y117_ ⟨rfl, r⟩; have hy : Fresh y115_ y117_ := r; have z118_0 := cell_fresh z116_0 hy; have z118_1 := cell_fresh z116_1 hy; have z118_2 := cell_fresh z116_2 hy; have z118_3 := cell_fresh z116_3 hy; have z118_4 := cell_fresh z116_4 hy; have z118_5 := cell_fresh z116_5 hy; have fy117_ := fresh_trans H_fy115_.out hy; have H_fy117_ := Lib.hid fy117_; clear r hy fy117_))
  go_wp2
  go_ret
  exact ⟨by rfl, fresh_trans H_fa.out H_fy117_.out⟩

set_option maxRecDepth 100000 in
set_option maxHeartbeats 8000000 in
theorem FnFixClamp_g (n1 n2 n3 nr : Bool) (c1 s1 c2 s2 c3 s3 cr sr : Nat) (w : World) (hs1 : s1 ≤ 19) (hs2 : s2 ≤ 19) (hs3 : s3 ≤ 19) (hc1 : c1 ≤ 9999999999999999999) (hc2 : c2 ≤ 9999999999999999999) (hc3 : c3 ≤ 9999999999999999999) (zeg : Int) (teg : ¬ 0 < zeg) (zde : Int) (tde : ¬ zde < 0) (zdg : Int) (tdg : 0 < zdg)
    (hcl : ∀ W, Fresh w W → Calls Tryz.prog 35 #[fx n1 c1 s1, fx n2 c2 s2, fx n3 c3 s3] W (VRet W (.tuple #[fx nr cr sr, .int .i64 0])))
    (hzeg : ∀ W x y, SFr W x (zfix n2 c2) (10 ^ s2) → SFr W y (zfix n3 c3) (10 ^ s3) → Calls Tryz.prog 19 #[x, y] W (IRet W zeg)) (hzde : ∀ W x y, SFr W x (zfix n1 c1) (10 ^ s1) → SFr W y (zfix n2 c2) (10 ^ s2) → Calls Tryz.prog 19 #[x, y] W (IRet W zde)) (hzdg : ∀ W x y, SFr W x (zfix n1 c1) (10 ^ s1) → SFr W y (zfix n3 c3) (10 ^ s3) → Calls Tryz.prog 19 #[x, y] W (IRet W zdg)) (hhas : ∀ W x, SFr W x (zfix n3 c3) (10 ^ s3) → Calls Tryz.prog 36 #[fx nr cr sr, x] W (VRet W (.bool true))) :
    Calls Tryz.prog 11 #[fx n1 c1 s1, fx n2 c2 s2, fx n3 c3 s3] w (VRet w (.bool true)) := by
  have h : (fixIs c1 s1 && (fixIs c2 s2 && fixIs c3 s3)) = true := by unfold fixIs; simp; omega
  have hn1 := fun W => FixNum_any n1 c1 s1 W hs1 hc1
  have hn2 := fun W => FixNum_any n2 c2 s2 W hs2 hc2
  have hn3 := fun W => FixNum_any n3 c3 s3 W hs3 hc3
  have teg' : decide (0 < zeg) = false := by simpa using teg
  have tde' : decide (zde < 0) = false := by simpa using tde
  have tdg' : decide (0 < zdg) = true := by simpa using tdg
  obtain ⟨g, hg⟩ : ∃ g, g = w.heap.size := ⟨_, rfl⟩
  have bx := boxes4 w #[.bool n1, .int .u64 c1, .int .i64 s1] #[.bool n2, .int .u64 c2, .int .i64 s2] #[.bool n3, .int .u64 c3, .int .i64 s3] #[.bool n1, .int .u64 c1, .int .i64 s1, .bool n2, .int .u64 c2, .int .i64 s2, .bool n3, .int .u64 c3, .int .i64 s3] 24 24 24 24 g hg
  have H_bx := Lib.hid bx; clear bx
  have H_h := Lib.hid h; clear h
  have H_hcl := Lib.hid hcl; clear hcl
  have H_hn1 := Lib.hid hn1; clear hn1
  have H_hn2 := Lib.hid hn2; clear hn2
  have H_hn3 := Lib.hid hn3; clear hn3
  have H_hzeg := Lib.hid hzeg; clear hzeg
  have H_hzde := Lib.hid hzde; clear hzde
  have H_hzdg := Lib.hid hzdg; clear hzdg
  have H_hhas := Lib.hid hhas; clear hhas
  go_enter Tryz.func11, Tryz.ntmps11
  go_wp2_with (fail)
  generalize hw1 : (((w.alloc _).alloc _).alloc _).alloc _ = w1
  rw [← hg]
  obtain ⟨d1, d2, d3, d4, fa⟩ := H_bx.out w1 hw1
  refine (FixAll_three n1 n2 n3 c1 c2 c3 s1 s2 s3 _ _ d4).mono ?_
  rintro e w2 ⟨rfl, f2⟩
  rw [H_h.out]
  have H_d1 := Lib.hid d1; clear d1
  have H_d2 := Lib.hid d2; clear d2
  have H_d3 := Lib.hid d3; clear d3
  have H_fa := Lib.hid fa; clear fa
  have H_hw1 := Lib.hid hw1; clear hw1
  have H_hg := Lib.hid hg; clear hg
  clear d4
  have d1 := row_fresh H_d1.out f2
  have d2 := row_fresh H_d2.out f2
  have d3 := row_fresh H_d3.out f2
  have fa := fresh_trans H_fa.out f2
  have m0 := row_cell d1 0
  have m1 := row_cell d1 1
  have m2 := row_cell d1 2
  have m3 := row_cell d2 0
  have m4 := row_cell d2 1
  have m5 := row_cell d2 2
  have m6 := row_cell d3 0
  have m7 := row_cell d3 1
  have m8 := row_cell d3 2
  simp at m0 m1 m2 m3 m4 m5 m6 m7 m8
  have H_f2 := Lib.hid f2; clear f2
  clear H_d1 H_d2 H_d3 H_fa
  have H_d1 := Lib.hid d1; clear d1
  have H_d2 := Lib.hid d2; clear d2
  have H_d3 := Lib.hid d3; clear d3
  have H_fa := Lib.hid fa; clear fa
  go_wp2_with (fail)
  refine (H_hcl.out _ H_fa.out).mono ?_
  rintro e w3 ⟨rfl, f3⟩
  have d1 := row_fresh H_d1.out f3
  have d2 := row_fresh H_d2.out f3
  have d3 := row_fresh H_d3.out f3
  have fa := fresh_trans H_fa.out f3
  clear m0 m1 m2 m3 m4 m5 m6 m7 m8
  obtain ⟨h7, hh7⟩ : ∃ h, h = w3.heap.size := ⟨_, rfl⟩
  have H_f3 := Lib.hid f3; clear f3
  have H_hh7 := Lib.hid hh7; clear hh7
  clear H_d1 H_d2 H_d3 H_fa
  have H_d1 := Lib.hid d1; clear d1
  have H_d2 := Lib.hid d2; clear d2
  have H_d3 := Lib.hid d3; clear d3
  have H_fa := Lib.hid fa; clear fa
  go_wp2_with (fail)
  generalize hw4 : w3.alloc _ = w4
  have f4 : Fresh w3 w4 := by rw [← hw4]; exact (Keep.refl _ _).alloc _
  have r7 : w4.heap[h7]? = some (.cells #[.bool nr, .int .u64 cr, .int .i64 sr] 24 (0, 0)) := by rw [← hw4, H_hh7.out]; exact heap_alloc_new w3 _
  rw [← H_hh7.out]
  have d1 := row_fresh H_d1.out f4
  have d2 := row_fresh H_d2.out f4
  have d3 := row_fresh H_d3.out f4
  have fa := fresh_trans H_fa.out f4
  have m0 := row_cell d2 0
  have m1 := row_cell d2 1
  have m2 := row_cell d2 2
  have m3 := row_cell d3 0
  have m4 := row_cell d3 1
  have m5 := row_cell d3 2
  simp at m0 m1 m2 m3 m4 m5
  have H_f4 := Lib.hid f4; clear f4
  have H_hw4 := Lib.hid hw4; clear hw4
  clear H_d1 H_d2 H_d3 H_fa
  have H_d1 := Lib.hid d1; clear d1
  have H_d2 := Lib.hid d2; clear d2
  have H_d3 := Lib.hid d3; clear d3
  have H_r7 := Lib.hid r7; clear r7
  have H_fa := Lib.hid fa; clear fa
  go_region_held3 (fun (w' : World) => w'.cell? ⟨g + 1, 0, none⟩ = some (.bool n2) ∧ w'.cell? ⟨g + 1, 1, none⟩ = some (.int .u64 c2) ∧ w'.cell? ⟨g + 1, 2, none⟩ = some (.int .i64 s2) ∧ w'.cell? ⟨g + 1 + 1, 0, none⟩ = some (.bool n3) ∧ w'.cell? ⟨g + 1 + 1, 1, none⟩ = some (.int .u64 c3) ∧ w'.cell? ⟨g + 1 + 1, 2, none⟩ = some (.int .i64 s3)) (first | exact ⟨m0, m1, m2, m3, m4, m5⟩ | exact ⟨z102_0, z102_1, z102_2, z102_3, z102_4, z102_5⟩ | exact ⟨z104_0, z104_1, z104_2, z104_3, z104_4, z104_5⟩ | exact ⟨z106_0, z106_1, z106_2, z106_3, z106_4, z106_5⟩) (first
    | (go_at_call 14; (with_reducible refine (H_hn2.out _).mono ?_); rintro e y101_ ⟨xa, rfl, hsxa, r⟩; have hy : Fresh w4 y101_ := (by first | exact r | exact r.of_drew | exact r.of_drewN); have z102_0 := cell_fresh m0 hy; have z102_1 := cell_fresh m1 hy; have z102_2 := cell_fresh m2 hy; have z102_3 := cell_fresh m3 hy; have z102_4 := cell_fresh m4 hy; have z102_5 := cell_fresh m5 hy; have fy101_ := hy; have H_fy101_ := Lib.hid fy101_; have H_hyxa := Lib.hid hy; have H_hsxa := Lib.hid hsxa; clear r hy hsxa fy101_)
    | (go_at_call 14; (with_reducible refine (H_hn3.out _).mono ?_); rintro e y103_ ⟨ya, rfl, hsya, r⟩; have hy : Fresh y101_ y103_ := r; have z104_0 := cell_fresh z102_0 hy; have z104_1 := cell_fresh z102_1 hy; have z104_2 := cell_fresh z102_2 hy; have z104_3 := cell_fresh z102_3 hy; have z104_4 := cell_fresh z102_4 hy; have z104_5 := cell_fresh z102_5 hy; have fy103_ := fresh_trans H_fy101_.out hy; have H_fy103_ := Lib.hid fy103_; have H_hyya := Lib.hid hy; have H_hsya := Lib.hid hsya; clear r hy hsya fy103_)
    | (go_at_call 19; (with_reducible refine (H_hzeg.out _ _ _ (H_hsxa.out.fresh H_hyya.out) H_hsya.out).mono ?_); rintro e y105_ ⟨rfl, r⟩; have hy : Fresh y103_ y105_ := r; have z106_0 := cell_fresh z104_0 hy; have z106_1 := cell_fresh z104_1 hy; have z106_2 := cell_fresh z104_2 hy; have z106_3 := cell_fresh z104_3 hy; have z106_4 := cell_fresh z104_4 hy; have z106_5 := cell_fresh z104_5 hy; have fy105_ := fresh_trans H_fy103_.out hy; have H_fy105_ := Lib.hid fy105_; clear r hy fy105_))
  clear z106_0 z106_1 z106_2 z106_3 z106_4 z106_5
  have d1 := row_fresh H_d1.out H_fy105_.out
  have d2 := row_fresh H_d2.out H_fy105_.out
  have d3 := row_fresh H_d3.out H_fy105_.out
  have r7 := row_fresh H_r7.out H_fy105_.out
  have fa := fresh_trans H_fa.out H_fy105_.out
  have m0 := row_cell d1 0
  have m1 := row_cell d1 1
  have m2 := row_cell d1 2
  simp at m0 m1 m2
  obtain ⟨h9, hh9⟩ : ∃ h, h = y105_.heap.size := ⟨_, rfl⟩
  have h79 := lt_of_row r7
  have fsz := fa.size
  have H_hh9 := Lib.hid hh9; clear hh9
  have H_h79 := Lib.hid h79; clear h79
  have H_fsz := Lib.hid fsz; clear fsz
  clear H_d1 H_d2 H_d3 H_r7 H_fa
  have H_d1 := Lib.hid d1; clear d1
  have H_d2 := Lib.hid d2; clear d2
  have H_d3 := Lib.hid d3; clear d3
  have H_r7 := Lib.hid r7; clear r7
  have H_fa := Lib.hid fa; clear fa
  go_wp2_with (fail)
  generalize hw6 : y105_.alloc _ = w6
  have f6 : Fresh y105_ w6 := by rw [← hw6]; exact (Keep.refl _ _).alloc _
  have r9 : w6.heap[h9]? = some (.cells #[.bool n1, .int .u64 c1, .int .i64 s1] 24 (0, 0)) := by rw [← hw6, H_hh9.out]; exact heap_alloc_new y105_ _
  rw [← H_hh9.out]
  have d1 := row_fresh H_d1.out f6
  have d2 := row_fresh H_d2.out f6
  have d3 := row_fresh H_d3.out f6
  have r7 := row_fresh H_r7.out f6
  have fa := fresh_trans H_fa.out f6
  clear m0 m1 m2
  have m0 := row_cell d1 0
  have m1 := row_cell d1 1
  have m2 := row_cell d1 2
  have m3 := row_cell d2 0
  have m4 := row_cell d2 1
  have m5 := row_cell d2 2
  simp at m0 m1 m2 m3 m4 m5
  have H_f6 := Lib.hid f6; clear f6
  have H_hw6 := Lib.hid hw6; clear hw6
  clear H_d1 H_d2 H_d3 H_r7 H_fa
  have H_d1 := Lib.hid d1; clear d1
  have H_d2 := Lib.hid d2; clear d2
  have H_d3 := Lib.hid d3; clear d3
  have H_r7 := Lib.hid r7; clear r7
  have H_r9 := Lib.hid r9; clear r9
  have H_fa := Lib.hid fa; clear fa
  go_region_held3 (fun (w' : World) => w'.cell? ⟨g, 0, none⟩ = some (.bool n1) ∧ w'.cell? ⟨g, 1, none⟩ = some (.int .u64 c1) ∧ w'.cell? ⟨g, 2, none⟩ = some (.int .i64 s1) ∧ w'.cell? ⟨g + 1, 0, none⟩ = some (.bool n2) ∧ w'.cell? ⟨g + 1, 1, none⟩ = some (.int .u64 c2) ∧ w'.cell? ⟨g + 1, 2, none⟩ = some (.int .i64 s2)) (first | exact ⟨m0, m1, m2, m3, m4, m5⟩ | exact ⟨z108_0, z108_1, z108_2, z108_3, z108_4, z108_5⟩ | exact ⟨z110_0, z110_1, z110_2, z110_3, z110_4, z110_5⟩ | exact ⟨z112_0, z112_1, z112_2, z112_3, z112_4, z112_5⟩) (first
    | (go_at_call 14; (with_reducible refine (H_hn1.out _).mono ?_); rintro e y107_ ⟨xb, rfl, hsxb, r⟩; have hy : Fresh w6 y107_ := (by first | exact r | exact r.of_drew | exact r.of_drewN); have z108_0 := cell_fresh m0 hy; have z108_1 := cell_fresh m1 hy; have z108_2 := cell_fresh m2 hy; have z108_3 := cell_fresh m3 hy; have z108_4 := cell_fresh m4 hy; have z108_5 := cell_fresh m5 hy; have fy107_ := hy; have H_fy107_ := Lib.hid fy107_; have H_hyxb := Lib.hid hy; have H_hsxb := Lib.hid hsxb; clear r hy hsxb fy107_)
    | (go_at_call 14; (with_reducible refine (H_hn2.out _).mono ?_); rintro e y109_ ⟨yb, rfl, hsyb, r⟩; have hy : Fresh y107_ y109_ := r; have z110_0 := cell_fresh z108_0 hy; have z110_1 := cell_fresh z108_1 hy; have z110_2 := cell_fresh z108_2 hy; have z110_3 := cell_fresh z108_3 hy; have z110_4 := cell_fresh z108_4 hy; have z110_5 := cell_fresh z108_5 hy; have fy109_ := fresh_trans H_fy107_.out hy; have H_fy109_ := Lib.hid fy109_; have H_hyyb := Lib.hid hy; have H_hsyb := Lib.hid hsyb; clear r hy hsyb fy109_)
    | (go_at_call 19; (with_reducible refine (H_hzde.out _ _ _ (H_hsxb.out.fresh H_hyyb.out) H_hsyb.out).mono ?_); rintro e y111_ ⟨rfl, r⟩; have hy : Fresh y109_ y111_ := r; have z112_0 := cell_fresh z110_0 hy; have z112_1 := cell_fresh z110_1 hy; have z112_2 := cell_fresh z110_2 hy; have z112_3 := cell_fresh z110_3 hy; have z112_4 := cell_fresh z110_4 hy; have z112_5 := cell_fresh z110_5 hy; have fy111_ := fresh_trans H_fy109_.out hy; have H_fy111_ := Lib.hid fy111_; clear r hy fy111_))
  clear z112_0 z112_1 z112_2 z112_3 z112_4 z112_5
  have d1 := row_fresh H_d1.out H_fy111_.out
  have d2 := row_fresh H_d2.out H_fy111_.out
  have d3 := row_fresh H_d3.out H_fy111_.out
  have r7 := row_fresh H_r7.out H_fy111_.out
  have r9 := row_fresh H_r9.out H_fy111_.out
  have fa := fresh_trans H_fa.out H_fy111_.out
  clear H_d1 H_d2 H_d3 H_r7 H_r9 H_fa
  have H_d1 := Lib.hid d1; clear d1
  have H_d2 := Lib.hid d2; clear d2
  have H_d3 := Lib.hid d3; clear d3
  have H_r7 := Lib.hid r7; clear r7
  have H_r9 := Lib.hid r9; clear r9
  have H_fa := Lib.hid fa; clear fa
  go_wp2_with (fail)
  have d1 := H_d1.out
  have d3 := H_d3.out
  have m0 := row_cell d1 0
  have m1 := row_cell d1 1
  have m2 := row_cell d1 2
  have m3 := row_cell d3 0
  have m4 := row_cell d3 1
  have m5 := row_cell d3 2
  simp at m0 m1 m2 m3 m4 m5
  clear d1 d3
  go_region_held3 (fun (w' : World) => w'.cell? ⟨g, 0, none⟩ = some (.bool n1) ∧ w'.cell? ⟨g, 1, none⟩ = some (.int .u64 c1) ∧ w'.cell? ⟨g, 2, none⟩ = some (.int .i64 s1) ∧ w'.cell? ⟨g + 1 + 1, 0, none⟩ = some (.bool n3) ∧ w'.cell? ⟨g + 1 + 1, 1, none⟩ = some (.int .u64 c3) ∧ w'.cell? ⟨g + 1 + 1, 2, none⟩ = some (.int .i64 s3)) (first | exact ⟨m0, m1, m2, m3, m4, m5⟩ | exact ⟨z114_0, z114_1, z114_2, z114_3, z114_4, z114_5⟩ | exact ⟨z116_0, z116_1, z116_2, z116_3, z116_4, z116_5⟩ | exact ⟨z118_0, z118_1, z118_2, z118_3, z118_4, z118_5⟩) (first
    | (go_at_call 14; (with_reducible refine (H_hn1.out _).mono ?_); rintro e y113_ ⟨xc, rfl, hsxc, r⟩; have hy : Fresh y111_ y113_ := (by first | exact r | exact r.of_drew | exact r.of_drewN); have z114_0 := cell_fresh m0 hy; have z114_1 := cell_fresh m1 hy; have z114_2 := cell_fresh m2 hy; have z114_3 := cell_fresh m3 hy; have z114_4 := cell_fresh m4 hy; have z114_5 := cell_fresh m5 hy; have fy113_ := hy; have H_fy113_ := Lib.hid fy113_; have H_hyxc := Lib.hid hy; have H_hsxc := Lib.hid hsxc; clear r hy hsxc fy113_)
    | (go_at_call 14; (with_reducible refine (H_hn3.out _).mono ?_); rintro e y115_ ⟨yc, rfl, hsyc, r⟩; have hy : Fresh y113_ y115_ := r; have z116_0 := cell_fresh z114_0 hy; have z116_1 := cell_fresh z114_1 hy; have z116_2 := cell_fresh z114_2 hy; have z116_3 := cell_fresh z114_3 hy; have z116_4 := cell_fresh z114_4 hy; have z116_5 := cell_fresh z114_5 hy; have fy115_ := fresh_trans H_fy113_.out hy; have H_fy115_ := Lib.hid fy115_; have H_hyyc := Lib.hid hy; have H_hsyc := Lib.hid hsyc; clear r hy hsyc fy115_)
    | (go_at_call 19; (with_reducible refine (H_hzdg.out _ _ _ (H_hsxc.out.fresh H_hyyc.out) H_hsyc.out).mono ?_); rintro e y117_ ⟨rfl, r⟩; have hy : Fresh y115_ y117_ := r; have z118_0 := cell_fresh z116_0 hy; have z118_1 := cell_fresh z116_1 hy; have z118_2 := cell_fresh z116_2 hy; have z118_3 := cell_fresh z116_3 hy; have z118_4 := cell_fresh z116_4 hy; have z118_5 := cell_fresh z116_5 hy; have fy117_ := fresh_trans H_fy115_.out hy; have H_fy117_ := Lib.hid fy117_; clear r hy fy117_))
  clear z118_0 z118_1 z118_2 z118_3 z118_4 z118_5
  have d1 := row_fresh H_d1.out H_fy117_.out
  have d2 := row_fresh H_d2.out H_fy117_.out
  have d3 := row_fresh H_d3.out H_fy117_.out
  have r7 := row_fresh H_r7.out H_fy117_.out
  have r9 := row_fresh H_r9.out H_fy117_.out
  have fa := fresh_trans H_fa.out H_fy117_.out
  have m0 := row_cell d3 0
  have m1 := row_cell d3 1
  have m2 := row_cell d3 2
  simp at m0 m1 m2
  have o0 := row_cell r9 0
  have o1 := row_cell r9 1
  have o2 := row_cell r9 2
  simp at o0 o1 o2
  have q0 : y117_.frozen? ⟨h9, 0, none⟩ = false := frozen_of_row _ _ _ _ _ r9
  have q1 : y117_.frozen? ⟨h9, 1, none⟩ = false := frozen_of_row _ _ _ _ _ r9
  have q2 : y117_.frozen? ⟨h9, 2, none⟩ = false := frozen_of_row _ _ _ _ _ r9
  clear H_d1 H_d2 H_d3 H_r7 H_r9 H_fa
  have H_d1 := Lib.hid d1; clear d1
  have H_d2 := Lib.hid d2; clear d2
  have H_d3 := Lib.hid d3; clear d3
  have H_r7 := Lib.hid r7; clear r7
  have H_r9 := Lib.hid r9; clear r9
  have H_fa := Lib.hid fa; clear fa
  go_wp2_with (fail)
  clear m0 m1 m2 o0 o1 o2 q0 q1 q2
  generalize hw8 : World.setCell _ _ _ = w8
  have hl9 := lt_of_row H_r9.out
  have e79 : h9 ≠ h7 := by
    have h1 := H_hh9.out
    have h2 := H_h79.out
    omega
  have e9 : w.heap.size ≤ h9 := by
    have h1 := H_hh9.out
    have h2 := H_fsz.out
    omega
  have r9 := row3 (x := .bool n3) (y := .int .u64 c3) (z := .int .i64 s3) H_r9.out
  have r7 := row3_ne (x := .bool n3) (y := .int .u64 c3) (z := .int .i64 s3) e79 H_r7.out
  have fa := H_fa.out.set3 (v1 := .bool n3) (v2 := .int .u64 c3) (v3 := .int .i64 s3) e9 (o1 := 0) (o2 := 1) (o3 := 2)
  rw [hw8] at r9 r7 fa
  have m0 := row_cell r7 0
  have m1 := row_cell r7 1
  have m2 := row_cell r7 2
  have m3 := row_cell r9 0
  have m4 := row_cell r9 1
  have m5 := row_cell r9 2
  simp at m0 m1 m2 m3 m4 m5
  clear H_r7 H_r9 H_fa
  have H_r7 := Lib.hid r7; clear r7
  have H_r9 := Lib.hid r9; clear r9
  have H_fa := Lib.hid fa; clear fa
  have H_hw8 := Lib.hid hw8; clear hw8
  go_region_held3 (fun (w' : World) => w'.cell? ⟨h7, 0, none⟩ = some (.bool nr) ∧ w'.cell? ⟨h7, 1, none⟩ = some (.int .u64 cr) ∧ w'.cell? ⟨h7, 2, none⟩ = some (.int .i64 sr) ∧ w'.cell? ⟨h9, 0, none⟩ = some (.bool n3) ∧ w'.cell? ⟨h9, 1, none⟩ = some (.int .u64 c3) ∧ w'.cell? ⟨h9, 2, none⟩ = some (.int .i64 s3)) (first | exact ⟨m0, m1, m2, m3, m4, m5⟩ | exact ⟨z120_0, z120_1, z120_2, z120_3, z120_4, z120_5⟩ | exact ⟨z122_0, z122_1, z122_2, z122_3, z122_4, z122_5⟩ | exact ⟨z124_0, z124_1, z124_2, z124_3, z124_4, z124_5⟩) (first
    | (go_at_call 14; (with_reducible refine (H_hn3.out _).mono ?_); rintro e y119_ ⟨xd, rfl, hsxd, r⟩; have hy : Fresh w8 y119_ := (by first | exact r | exact r.of_drew | exact r.of_drewN); have z120_0 := cell_fresh m0 hy; have z120_1 := cell_fresh m1 hy; have z120_2 := cell_fresh m2 hy; have z120_3 := cell_fresh m3 hy; have z120_4 := cell_fresh m4 hy; have z120_5 := cell_fresh m5 hy; have fy119_ := hy; have H_fy119_ := Lib.hid fy119_; have H_hyxd := Lib.hid hy; have H_hsxd := Lib.hid hsxd; clear r hy hsxd fy119_)
    | (go_at_call 36; (with_reducible refine (H_hhas.out _ _ H_hsxd.out).mono ?_); rintro e y121_ ⟨rfl, r⟩; have hy : Fresh y119_ y121_ := r; have z122_0 := cell_fresh z120_0 hy; have z122_1 := cell_fresh z120_1 hy; have z122_2 := cell_fresh z120_2 hy; have z122_3 := cell_fresh z120_3 hy; have z122_4 := cell_fresh z120_4 hy; have z122_5 := cell_fresh z120_5 hy; have fy121_ := fresh_trans H_fy119_.out hy; have H_fy121_ := Lib.hid fy121_; clear r hy fy121_)
    | (go_at_call 21; (with_reducible refine (gvLives_any _).mono ?_); rintro e y123_ ⟨rfl, r⟩; have hy : Fresh y121_ y123_ := r; have z124_0 := cell_fresh z122_0 hy; have z124_1 := cell_fresh z122_1 hy; have z124_2 := cell_fresh z122_2 hy; have z124_3 := cell_fresh z122_3 hy; have z124_4 := cell_fresh z122_4 hy; have z124_5 := cell_fresh z122_5 hy; have fy123_ := fresh_trans H_fy121_.out hy; have H_fy123_ := Lib.hid fy123_; clear r hy fy123_))
  go_wp2
  go_ret
  exact ⟨by rfl, fresh_trans H_fa.out H_fy123_.out⟩

set_option maxRecDepth 100000 in
set_option maxHeartbeats 8000000 in
theorem FnFixClamp_d (n1 n2 n3 nr : Bool) (c1 s1 c2 s2 c3 s3 cr sr : Nat) (w : World) (hs1 : s1 ≤ 19) (hs2 : s2 ≤ 19) (hs3 : s3 ≤ 19) (hc1 : c1 ≤ 9999999999999999999) (hc2 : c2 ≤ 9999999999999999999) (hc3 : c3 ≤ 9999999999999999999) (zeg : Int) (teg : ¬ 0 < zeg) (zde : Int) (tde : ¬ zde < 0) (zdg : Int) (tdg : ¬ 0 < zdg)
    (hcl : ∀ W, Fresh w W → Calls Tryz.prog 35 #[fx n1 c1 s1, fx n2 c2 s2, fx n3 c3 s3] W (VRet W (.tuple #[fx nr cr sr, .int .i64 0])))
    (hzeg : ∀ W x y, SFr W x (zfix n2 c2) (10 ^ s2) → SFr W y (zfix n3 c3) (10 ^ s3) → Calls Tryz.prog 19 #[x, y] W (IRet W zeg)) (hzde : ∀ W x y, SFr W x (zfix n1 c1) (10 ^ s1) → SFr W y (zfix n2 c2) (10 ^ s2) → Calls Tryz.prog 19 #[x, y] W (IRet W zde)) (hzdg : ∀ W x y, SFr W x (zfix n1 c1) (10 ^ s1) → SFr W y (zfix n3 c3) (10 ^ s3) → Calls Tryz.prog 19 #[x, y] W (IRet W zdg)) (hhas : ∀ W x, SFr W x (zfix n1 c1) (10 ^ s1) → Calls Tryz.prog 36 #[fx nr cr sr, x] W (VRet W (.bool true))) :
    Calls Tryz.prog 11 #[fx n1 c1 s1, fx n2 c2 s2, fx n3 c3 s3] w (VRet w (.bool true)) := by
  have h : (fixIs c1 s1 && (fixIs c2 s2 && fixIs c3 s3)) = true := by unfold fixIs; simp; omega
  have hn1 := fun W => FixNum_any n1 c1 s1 W hs1 hc1
  have hn2 := fun W => FixNum_any n2 c2 s2 W hs2 hc2
  have hn3 := fun W => FixNum_any n3 c3 s3 W hs3 hc3
  have teg' : decide (0 < zeg) = false := by simpa using teg
  have tde' : decide (zde < 0) = false := by simpa using tde
  have tdg' : decide (0 < zdg) = false := by simpa using tdg
  obtain ⟨g, hg⟩ : ∃ g, g = w.heap.size := ⟨_, rfl⟩
  have bx := boxes4 w #[.bool n1, .int .u64 c1, .int .i64 s1] #[.bool n2, .int .u64 c2, .int .i64 s2] #[.bool n3, .int .u64 c3, .int .i64 s3] #[.bool n1, .int .u64 c1, .int .i64 s1, .bool n2, .int .u64 c2, .int .i64 s2, .bool n3, .int .u64 c3, .int .i64 s3] 24 24 24 24 g hg
  have H_bx := Lib.hid bx; clear bx
  have H_h := Lib.hid h; clear h
  have H_hcl := Lib.hid hcl; clear hcl
  have H_hn1 := Lib.hid hn1; clear hn1
  have H_hn2 := Lib.hid hn2; clear hn2
  have H_hn3 := Lib.hid hn3; clear hn3
  have H_hzeg := Lib.hid hzeg; clear hzeg
  have H_hzde := Lib.hid hzde; clear hzde
  have H_hzdg := Lib.hid hzdg; clear hzdg
  have H_hhas := Lib.hid hhas; clear hhas
  go_enter Tryz.func11, Tryz.ntmps11
  go_wp2_with (fail)
  generalize hw1 : (((w.alloc _).alloc _).alloc _).alloc _ = w1
  rw [← hg]
  obtain ⟨d1, d2, d3, d4, fa⟩ := H_bx.out w1 hw1
  refine (FixAll_three n1 n2 n3 c1 c2 c3 s1 s2 s3 _ _ d4).mono ?_
  rintro e w2 ⟨rfl, f2⟩
  rw [H_h.out]
  have H_d1 := Lib.hid d1; clear d1
  have H_d2 := Lib.hid d2; clear d2
  have H_d3 := Lib.hid d3; clear d3
  have H_fa := Lib.hid fa; clear fa
  have H_hw1 := Lib.hid hw1; clear hw1
  have H_hg := Lib.hid hg; clear hg
  clear d4
  have d1 := row_fresh H_d1.out f2
  have d2 := row_fresh H_d2.out f2
  have d3 := row_fresh H_d3.out f2
  have fa := fresh_trans H_fa.out f2
  have m0 := row_cell d1 0
  have m1 := row_cell d1 1
  have m2 := row_cell d1 2
  have m3 := row_cell d2 0
  have m4 := row_cell d2 1
  have m5 := row_cell d2 2
  have m6 := row_cell d3 0
  have m7 := row_cell d3 1
  have m8 := row_cell d3 2
  simp at m0 m1 m2 m3 m4 m5 m6 m7 m8
  have H_f2 := Lib.hid f2; clear f2
  clear H_d1 H_d2 H_d3 H_fa
  have H_d1 := Lib.hid d1; clear d1
  have H_d2 := Lib.hid d2; clear d2
  have H_d3 := Lib.hid d3; clear d3
  have H_fa := Lib.hid fa; clear fa
  go_wp2_with (fail)
  refine (H_hcl.out _ H_fa.out).mono ?_
  rintro e w3 ⟨rfl, f3⟩
  have d1 := row_fresh H_d1.out f3
  have d2 := row_fresh H_d2.out f3
  have d3 := row_fresh H_d3.out f3
  have fa := fresh_trans H_fa.out f3
  clear m0 m1 m2 m3 m4 m5 m6 m7 m8
  obtain ⟨h7, hh7⟩ : ∃ h, h = w3.heap.size := ⟨_, rfl⟩
  have H_f3 := Lib.hid f3; clear f3
  have H_hh7 := Lib.hid hh7; clear hh7
  clear H_d1 H_d2 H_d3 H_fa
  have H_d1 := Lib.hid d1; clear d1
  have H_d2 := Lib.hid d2; clear d2
  have H_d3 := Lib.hid d3; clear d3
  have H_fa := Lib.hid fa; clear fa
  go_wp2_with (fail)
  generalize hw4 : w3.alloc _ = w4
  have f4 : Fresh w3 w4 := by rw [← hw4]; exact (Keep.refl _ _).alloc _
  have r7 : w4.heap[h7]? = some (.cells #[.bool nr, .int .u64 cr, .int .i64 sr] 24 (0, 0)) := by rw [← hw4, H_hh7.out]; exact heap_alloc_new w3 _
  rw [← H_hh7.out]
  have d1 := row_fresh H_d1.out f4
  have d2 := row_fresh H_d2.out f4
  have d3 := row_fresh H_d3.out f4
  have fa := fresh_trans H_fa.out f4
  have m0 := row_cell d2 0
  have m1 := row_cell d2 1
  have m2 := row_cell d2 2
  have m3 := row_cell d3 0
  have m4 := row_cell d3 1
  have m5 := row_cell d3 2
  simp at m0 m1 m2 m3 m4 m5
  have H_f4 := Lib.hid f4; clear f4
  have H_hw4 := Lib.hid hw4; clear hw4
  clear H_d1 H_d2 H_d3 H_fa
  have H_d1 := Lib.hid d1; clear d1
  have H_d2 := Lib.hid d2; clear d2
  have H_d3 := Lib.hid d3; clear d3
  have H_r7 := Lib.hid r7; clear r7
  have H_fa := Lib.hid fa; clear fa
  go_region_held3 (fun (w' : World) => w'.cell? ⟨g + 1, 0, none⟩ = some (.bool n2) ∧ w'.cell? ⟨g + 1, 1, none⟩ = some (.int .u64 c2) ∧ w'.cell? ⟨g + 1, 2, none⟩ = some (.int .i64 s2) ∧ w'.cell? ⟨g + 1 + 1, 0, none⟩ = some (.bool n3) ∧ w'.cell? ⟨g + 1 + 1, 1, none⟩ = some (.int .u64 c3) ∧ w'.cell? ⟨g + 1 + 1, 2, none⟩ = some (.int .i64 s3)) (first | exact ⟨m0, m1, m2, m3, m4, m5⟩ | exact ⟨z102_0, z102_1, z102_2, z102_3, z102_4, z102_5⟩ | exact ⟨z104_0, z104_1, z104_2, z104_3, z104_4, z104_5⟩ | exact ⟨z106_0, z106_1, z106_2, z106_3, z106_4, z106_5⟩) (first
    | (go_at_call 14; (with_reducible refine (H_hn2.out _).mono ?_); rintro e y101_ ⟨xa, rfl, hsxa, r⟩; have hy : Fresh w4 y101_ := (by first | exact r | exact r.of_drew | exact r.of_drewN); have z102_0 := cell_fresh m0 hy; have z102_1 := cell_fresh m1 hy; have z102_2 := cell_fresh m2 hy; have z102_3 := cell_fresh m3 hy; have z102_4 := cell_fresh m4 hy; have z102_5 := cell_fresh m5 hy; have fy101_ := hy; have H_fy101_ := Lib.hid fy101_; have H_hyxa := Lib.hid hy; have H_hsxa := Lib.hid hsxa; clear r hy hsxa fy101_)
    | (go_at_call 14; (with_reducible refine (H_hn3.out _).mono ?_); rintro e y103_ ⟨ya, rfl, hsya, r⟩; have hy : Fresh y101_ y103_ := r; have z104_0 := cell_fresh z102_0 hy; have z104_1 := cell_fresh z102_1 hy; have z104_2 := cell_fresh z102_2 hy; have z104_3 := cell_fresh z102_3 hy; have z104_4 := cell_fresh z102_4 hy; have z104_5 := cell_fresh z102_5 hy; have fy103_ := fresh_trans H_fy101_.out hy; have H_fy103_ := Lib.hid fy103_; have H_hyya := Lib.hid hy; have H_hsya := Lib.hid hsya; clear r hy hsya fy103_)
    | (go_at_call 19; (with_reducible refine (H_hzeg.out _ _ _ (H_hsxa.out.fresh H_hyya.out) H_hsya.out).mono ?_); rintro e y105_ ⟨rfl, r⟩; have hy : Fresh y103_ y105_ := r; have z106_0 := cell_fresh z104_0 hy; have z106_1 := cell_fresh z104_1 hy; have z106_2 := cell_fresh z104_2 hy; have z106_3 := cell_fresh z104_3 hy; have z106_4 := cell_fresh z104_4 hy; have z106_5 := cell_fresh z104_5 hy; have fy105_ := fresh_trans H_fy103_.out hy; have H_fy105_ := Lib.hid fy105_; clear r hy fy105_))
  clear z106_0 z106_1 z106_2 z106_3 z106_4 z106_5
  have d1 := row_fresh H_d1.out H_fy105_.out
  have d2 := row_fresh H_d2.out H_fy105_.out
  have d3 := row_fresh H_d3.out H_fy105_.out
  have r7 := row_fresh H_r7.out H_fy105_.out
  have fa := fresh_trans H_fa.out H_fy105_.out
  have m0 := row_cell d1 0
  have m1 := row_cell d1 1
  have m2 := row_cell d1 2
  simp at m0 m1 m2
  obtain ⟨h9, hh9⟩ : ∃ h, h = y105_.heap.size := ⟨_, rfl⟩
  have h79 := lt_of_row r7
  have fsz := fa.size
  have H_hh9 := Lib.hid hh9; clear hh9
  have H_h79 := Lib.hid h79; clear h79
  have H_fsz := Lib.hid fsz; clear fsz
  clear H_d1 H_d2 H_d3 H_r7 H_fa
  have H_d1 := Lib.hid d1; clear d1
  have H_d2 := Lib.hid d2; clear d2
  have H_d3 := Lib.hid d3; clear d3
  have H_r7 := Lib.hid r7; clear r7
  have H_fa := Lib.hid fa; clear fa
  go_wp2_with (fail)
  generalize hw6 : y105_.alloc _ = w6
  have f6 : Fresh y105_ w6 := by rw [← hw6]; exact (Keep.refl _ _).alloc _
  have r9 : w6.heap[h9]? = some (.cells #[.bool n1, .int .u64 c1, .int .i64 s1] 24 (0, 0)) := by rw [← hw6, H_hh9.out]; exact heap_alloc_new y105_ _
  rw [← H_hh9.out]
  have d1 := row_fresh H_d1.out f6
  have d2 := row_fresh H_d2.out f6
  have d3 := row_fresh H_d3.out f6
  have r7 := row_fresh H_r7.out f6
  have fa := fresh_trans H_fa.out f6
  clear m0 m1 m2
  have m0 := row_cell d1 0
  have m1 := row_cell d1 1
  have m2 := row_cell d1 2
  have m3 := row_cell d2 0
  have m4 := row_cell d2 1
  have m5 := row_cell d2 2
  simp at m0 m1 m2 m3 m4 m5
  have H_f6 := Lib.hid f6; clear f6
  have H_hw6 := Lib.hid hw6; clear hw6
  clear H_d1 H_d2 H_d3 H_r7 H_fa
  have H_d1 := Lib.hid d1; clear d1
  have H_d2 := Lib.hid d2; clear d2
  have H_d3 := Lib.hid d3; clear d3
  have H_r7 := Lib.hid r7; clear r7
  have H_r9 := Lib.hid r9; clear r9
  have H_fa := Lib.hid fa; clear fa
  go_region_held3 (fun (w' : World) => w'.cell? ⟨g, 0, none⟩ = some (.bool n1) ∧ w'.cell? ⟨g, 1, none⟩ = some (.int .u64 c1) ∧ w'.cell? ⟨g, 2, none⟩ = some (.int .i64 s1) ∧ w'.cell? ⟨g + 1, 0, none⟩ = some (.bool n2) ∧ w'.cell? ⟨g + 1, 1, none⟩ = some (.int .u64 c2) ∧ w'.cell? ⟨g + 1, 2, none⟩ = some (.int .i64 s2)) (first | exact ⟨m0, m1, m2, m3, m4, m5⟩ | exact ⟨z108_0, z108_1, z108_2, z108_3, z108_4, z108_5⟩ | exact ⟨z110_0, z110_1, z110_2, z110_3, z110_4, z110_5⟩ | exact ⟨z112_0, z112_1, z112_2, z112_3, z112_4, z112_5⟩) (first
    | (go_at_call 14; (with_reducible refine (H_hn1.out _).mono ?_); rintro e y107_ ⟨xb, rfl, hsxb, r⟩; have hy : Fresh w6 y107_ := (by first | exact r | exact r.of_drew | exact r.of_drewN); have z108_0 := cell_fresh m0 hy; have z108_1 := cell_fresh m1 hy; have z108_2 := cell_fresh m2 hy; have z108_3 := cell_fresh m3 hy; have z108_4 := cell_fresh m4 hy; have z108_5 := cell_fresh m5 hy; have fy107_ := hy; have H_fy107_ := Lib.hid fy107_; have H_hyxb := Lib.hid hy; have H_hsxb := Lib.hid hsxb; clear r hy hsxb fy107_)
    | (go_at_call 14; (with_reducible refine (H_hn2.out _).mono ?_); rintro e y109_ ⟨yb, rfl, hsyb, r⟩; have hy : Fresh y107_ y109_ := r; have z110_0 := cell_fresh z108_0 hy; have z110_1 := cell_fresh z108_1 hy; have z110_2 := cell_fresh z108_2 hy; have z110_3 := cell_fresh z108_3 hy; have z110_4 := cell_fresh z108_4 hy; have z110_5 := cell_fresh z108_5 hy; have fy109_ := fresh_trans H_fy107_.out hy; have H_fy109_ := Lib.hid fy109_; have H_hyyb := Lib.hid hy; have H_hsyb := Lib.hid hsyb; clear r hy hsyb fy109_)
    | (go_at_call 19; (with_reducible refine (H_hzde.out _ _ _ (H_hsxb.out.fresh H_hyyb.out) H_hsyb.out).mono ?_); rintro e y111_ ⟨rfl, r⟩; have hy : Fresh y109_ y111_ := r; have z112_0 := cell_fresh z110_0 hy; have z112_1 := cell_fresh z110_1 hy; have z112_2 := cell_fresh z110_2 hy; have z112_3 := cell_fresh z110_3 hy; have z112_4 := cell_fresh z110_4 hy; have z112_5 := cell_fresh z110_5 hy; have fy111_ := fresh_trans H_fy109_.out hy; have H_fy111_ := Lib.hid fy111_; clear r hy fy111_))
  clear z112_0 z112_1 z112_2 z112_3 z112_4 z112_5
  have d1 := row_fresh H_d1.out H_fy111_.out
  have d2 := row_fresh H_d2.out H_fy111_.out
  have d3 := row_fresh H_d3.out H_fy111_.out
  have r7 := row_fresh H_r7.out H_fy111_.out
  have r9 := row_fresh H_r9.out H_fy111_.out
  have fa := fresh_trans H_fa.out H_fy111_.out
  clear H_d1 H_d2 H_d3 H_r7 H_r9 H_fa
  have H_d1 := Lib.hid d1; clear d1
  have H_d2 := Lib.hid d2; clear d2
  have H_d3 := Lib.hid d3; clear d3
  have H_r7 := Lib.hid r7; clear r7
  have H_r9 := Lib.hid r9; clear r9
  have H_fa := Lib.hid fa; clear fa
  go_wp2_with (fail)
  have d1 := H_d1.out
  have d3 := H_d3.out
  have m0 := row_cell d1 0
  have m1 := row_cell d1 1
  have m2 := row_cell d1 2
  have m3 := row_cell d3 0
  have m4 := row_cell d3 1
  have m5 := row_cell d3 2
  simp at m0 m1 m2 m3 m4 m5
  clear d1 d3
  go_region_held3 (fun (w' : World) => w'.cell? ⟨g, 0, none⟩ = some (.bool n1) ∧ w'.cell? ⟨g, 1, none⟩ = some (.int .u64 c1) ∧ w'.cell? ⟨g, 2, none⟩ = some (.int .i64 s1) ∧ w'.cell? ⟨g + 1 + 1, 0, none⟩ = some (.bool n3) ∧ w'.cell? ⟨g + 1 + 1, 1, none⟩ = some (.int .u64 c3) ∧ w'.cell? ⟨g + 1 + 1, 2, none⟩ = some (.int .i64 s3)) (first | exact ⟨m0, m1, m2, m3, m4, m5⟩ | exact ⟨z114_0, z114_1, z114_2, z114_3, z114_4, z114_5⟩ | exact ⟨z116_0, z116_1, z116_2, z116_3, z116_4, z116_5⟩ | exact ⟨z118_0, z118_1, z118_2, z118_3, z118_4, z118_5⟩) (first
    | (go_at_call 14; (with_reducible refine (H_hn1.out _).mono ?_); rintro e y113_ ⟨xc, rfl, hsxc, r⟩; have hy : Fresh y111_ y113_ := (by first | exact r | exact r.of_drew | exact r.of_drewN); have z114_0 := cell_fresh m0 hy; have z114_1 := cell_fresh m1 hy; have z114_2 := cell_fresh m2 hy; have z114_3 := cell_fresh m3 hy; have z114_4 := cell_fresh m4 hy; have z114_5 := cell_fresh m5 hy; have fy113_ := hy; have H_fy113_ := Lib.hid fy113_; have H_hyxc := Lib.hid hy; have H_hsxc := Lib.hid hsxc; clear r hy hsxc fy113_)
    | (go_at_call 14; (with_reducible refine (H_hn3.out _).mono ?_); rintro e y115_ ⟨yc, rfl, hsyc, r⟩; have hy : Fresh y113_ y115_ := r; have z116_0 := cell_fresh z114_0 hy; have z116_1 := cell_fresh z114_1 hy; have z116_2 := cell_fresh z114_2 hy; have z116_3 := cell_fresh z114_3 hy; have z116_4 := cell_fresh z114_4 hy; have z116_5 := cell_fresh z114_5 hy; have fy115_ := fresh_trans H_fy113_.out hy; have H_fy115_ := Lib.hid fy115_; have H_hyyc := Lib.hid hy; have H_hsyc := Lib.hid hsyc; clear r hy hsyc fy115_)
    | (go_at_call 19; (with_reducible refine (H_hzdg.out _ _ _ (H_hsxc.out.fresh H_hyyc.out) H_hsyc.out).mono ?_); rintro e y117_ ⟨rfl, r⟩; have hy : Fresh y115_ y117_ := r; have z118_0 := cell_fresh z116_0 hy; have z118_1 := cell_fresh z116_1 hy; have z118_2 := cell_fresh z116_2 hy; have z118_3 := cell_fresh z116_3 hy; have z118_4 := cell_fresh z116_4 hy; have z118_5 := cell_fresh z116_5 hy; have fy117_ := fresh_trans H_fy115_.out hy; have H_fy117_ := Lib.hid fy117_; clear r hy fy117_))
  clear z118_0 z118_1 z118_2 z118_3 z118_4 z118_5
  have d1 := row_fresh H_d1.out H_fy117_.out
  have d2 := row_fresh H_d2.out H_fy117_.out
  have d3 := row_fresh H_d3.out H_fy117_.out
  have r7 := row_fresh H_r7.out H_fy117_.out
  have r9 := row_fresh H_r9.out H_fy117_.out
  have fa := fresh_trans H_fa.out H_fy117_.out
  clear H_d1 H_d2 H_d3 H_r7 H_r9 H_fa
  have H_d1 := Lib.hid d1; clear d1
  have H_d2 := Lib.hid d2; clear d2
  have H_d3 := Lib.hid d3; clear d3
  have H_r7 := Lib.hid r7; clear r7
  have H_r9 := Lib.hid r9; clear r9
  have H_fa := Lib.hid fa; clear fa
  go_wp2_with (fail)
  have r7 := H_r7.out
  have r9 := H_r9.out
  have m0 := row_cell r7 0
  have m1 := row_cell r7 1
  have m2 := row_cell r7 2
  have m3 := row_cell r9 0
  have m4 := row_cell r9 1
  have m5 := row_cell r9 2
  simp at m0 m1 m2 m3 m4 m5
  clear r7 r9
  go_region_held3 (fun (w' : World) => w'.cell? ⟨h7, 0, none⟩ = some (.bool nr) ∧ w'.cell? ⟨h7, 1, none⟩ = some (.int .u64 cr) ∧ w'.cell? ⟨h7, 2, none⟩ = some (.int .i64 sr) ∧ w'.cell? ⟨h9, 0, none⟩ = some (.bool n1) ∧ w'.cell? ⟨h9, 1, none⟩ = some (.int .u64 c1) ∧ w'.cell? ⟨h9, 2, none⟩ = some (.int .i64 s1)) (first | exact ⟨m0, m1, m2, m3, m4, m5⟩ | exact ⟨z120_0, z120_1, z120_2, z120_3, z120_4, z120_5⟩ | exact ⟨z122_0, z122_1, z122_2, z122_3, z122_4, z122_5⟩ | exact ⟨z124_0, z124_1, z124_2, z124_3, z124_4, z124_5⟩) (first
    | (go_at_call 14; (with_reducible refine (H_hn1.out _).mono ?_); rintro e y119_ ⟨xd, rfl, hsxd, r⟩; have hy : Fresh y117_ y119_ := (by first | exact r | exact r.of_drew | exact r.of_drewN); have z120_0 := cell_fresh m0 hy; have z120_1 := cell_fresh m1 hy; have z120_2 := cell_fresh m2 hy; have z120_3 := cell_fresh m3 hy; have z120_4 := cell_fresh m4 hy; have z120_5 := cell_fresh m5 hy; have fy119_ := hy; have H_fy119_ := Lib.hid fy119_; have H_hyxd := Lib.hid hy; have H_hsxd := Lib.hid hsxd; clear r hy hsxd fy119_)
    | (go_at_call 36; (with_reducible refine (H_hhas.out _ _ H_hsxd.out).mono ?_); rintro e y121_ ⟨rfl, r⟩; have hy : Fresh y119_ y121_ := r; have z122_0 := cell_fresh z120_0 hy; have z122_1 := cell_fresh z120_1 hy; have z122_2 := cell_fresh z120_2 hy; have z122_3 := cell_fresh z120_3 hy; have z122_4 := cell_fresh z120_4 hy; have z122_5 := cell_fresh z120_5 hy; have fy121_ := fresh_trans H_fy119_.out hy; have H_fy121_ := Lib.hid fy121_; clear r hy fy121_)
    | (go_at_call 21; (with_reducible refine (gvLives_any _).mono ?_); rintro e y123_ ⟨rfl, r⟩; have hy : Fresh y121_ y123_ := r; have z124_0 := cell_fresh z122_0 hy; have z124_1 := cell_fresh z122_1 hy; have z124_2 := cell_fresh z122_2 hy; have z124_3 := cell_fresh z122_3 hy; have z124_4 := cell_fresh z122_4 hy; have z124_5 := cell_fresh z122_5 hy; have fy123_ := fresh_trans H_fy121_.out hy; have H_fy123_ := Lib.hid fy123_; clear r hy fy123_))
  go_wp2
  go_ret
  exact ⟨by rfl, fresh_trans H_fa.out H_fy123_.out⟩

/-- the worth of a decimal in units of the nineteenth place -/
def fval (n : Bool) (c s : Nat) : Int := zfix n c * ((10 ^ (19 - s) : Nat) : Int)

theorem cmpZ_mul {a b k : Int} (hk : 0 < k) : cmpZ (a * k) (b * k) = cmpZ a b := by
  unfold cmpZ
  have h1 : a * k < b * k ↔ a < b := Int.mul_lt_mul_right hk
  have h2 : b * k < a * k ↔ b < a := Int.mul_lt_mul_right hk
  simp only [h1, h2]

theorem zcmp_fval {n1 n2 : Bool} {c1 s1 c2 s2 : Nat} (h1 : s1 ≤ 19) (h2 : s2 ≤ 19) : zcmp n1 c1 s1 n2 c2 s2 = cmpZ (fval n1 c1 s1) (fval n2 c2 s2) := by
  have e1 : 10 ^ s1 * 10 ^ (19 - s1) = 10 ^ 19 := by rw [← Nat.pow_add]; congr 1; omega
  have e2 : 10 ^ s2 * 10 ^ (19 - s2) = 10 ^ 19 := by rw [← Nat.pow_add]; congr 1; omega
  have p1 : 0 < 10 ^ (19 - s1) := Nat.pow_pos (by omega)
  have p2 : 0 < 10 ^ (19 - s2) := Nat.pow_pos (by omega)
  have p0 : 0 < 10 ^ 19 := Nat.pow_pos (by omega)
  unfold zcmp fval
  generalize 10 ^ s1 = a1 at *
  generalize 10 ^ s2 = a2 at *
  generalize 10 ^ (19 - s1) = b1 at *
  generalize 10 ^ (19 - s2) = b2 at *
  generalize (10 ^ 19 : Nat) = t at *
  have hk : (0 : Int) < (b1 : Int) * (b2 : Int) := Int.mul_pos (by omega) (by omega)
  have ht : (0 : Int) < (t : Int) := by omega
  have f1 : (a1 : Int) * (b1 : Int) = (t : Int) := by exact_mod_cast e1
  have f2 : (a2 : Int) * (b2 : Int) = (t : Int) := by exact_mod_cast e2
  rw [← cmpZ_mul (a := zfix n1 c1 * (a2 : Int)) hk, ← cmpZ_mul (a := zfix n1 c1 * (b1 : Int)) ht]
  congr 1
  · rw [← f2]; simp only [Int.mul_assoc, Int.mul_left_comm, Int.mul_comm]
  · rw [← f1]; simp only [Int.mul_assoc, Int.mul_left_comm, Int.mul_comm]

theorem fval_canon (n : Bool) (c s : Nat) : fval (n && decide (0 < c)) c s = fval n c s := by unfold fval; rw [zfix_canon]

theorem cmpZ_lt {a b : Int} : cmpZ a b < 0 ↔ a < b := by unfold cmpZ; split <;> (try split) <;> omega
theorem cmpZ_gt {a b : Int} : 0 < cmpZ a b ↔ b < a := by unfold cmpZ; split <;> (try split) <;> omega
theorem ctot_lt {a b : Int} {s t : Nat} (h : ctot (cmpZ a b) s t < 0) : a ≤ b := by
  apply Classical.byContradiction
  intro hn
  have : cmpZ a b = 1 := by unfold cmpZ; rw [if_neg (by omega), if_pos (by omega)]
  rw [this] at h; unfold ctot at h; simp at h
theorem ctot_gt {a b : Int} {s t : Nat} (h : 0 < ctot (cmpZ a b) s t) : b ≤ a := by
  apply Classical.byContradiction
  intro hn
  have : cmpZ a b = -1 := by unfold cmpZ; rw [if_pos (by omega)]
  rw [this] at h; unfold ctot at h; simp at h
theorem ctot_nlt {a b : Int} {s t : Nat} (h : ¬ ctot (cmpZ a b) s t < 0) : b ≤ a := by
  apply Classical.byContradiction
  intro hn
  have : cmpZ a b = -1 := by unfold cmpZ; rw [if_pos (by omega)]
  rw [this] at h; unfold ctot at h; simp at h
theorem ctot_ngt {a b : Int} {s t : Nat} (h : ¬ 0 < ctot (cmpZ a b) s t) : a ≤ b := by
  apply Classical.byContradiction
  intro hn
  have : cmpZ a b = 1 := by unfold cmpZ; rw [if_neg (by omega), if_pos (by omega)]
  rw [this] at h; unfold ctot at h; simp at h

/-- the bounds and the place where the decimal is found -/
theorem clamp_pick (n1 n2 n3 : Bool) (c1 s1 c2 s2 c3 s3 : Nat) (w : World) (hs1 : s1 ≤ 19) (hs2 : s2 ≤ 19) (hs3 : s3 ≤ 19) (hc1 : c1 ≤ 9999999999999999999) (hc2 : c2 ≤ 9999999999999999999) (hc3 : c3 ≤ 9999999999999999999)
    (hle : fval n2 c2 s2 ≤ fval n3 c3 s3)
    (hcm : ∀ W, Fresh w W → Calls Tryz.prog 46 #[gd n2 s2 c2, gd n3 s3 c3] W (VRet W (.int .i64 (cmpZ (fval n2 c2 s2) (fval n3 c3 s3)))))
    (h23 : ∀ W, Fresh w W → Calls Tryz.prog 106 #[gd n2 s2 c2, gd n3 s3 c3] W (VRet W (.int .i64 (ctot (cmpZ (fval n2 c2 s2) (fval n3 c3 s3)) s2 s3))))
    (h12 : ∀ W, Fresh w W → Calls Tryz.prog 106 #[gd n1 s1 c1, gd n2 s2 c2] W (VRet W (.int .i64 (ctot (cmpZ (fval n1 c1 s1) (fval n2 c2 s2)) s1 s2))))
    (h13 : ∀ W, Fresh w W → Calls Tryz.prog 106 #[gd n1 s1 c1, gd n3 s3 c3] W (VRet W (.int .i64 (ctot (cmpZ (fval n1 c1 s1) (fval n3 c3 s3)) s1 s3))))
    (k1 : n1 = true → 0 < c1) (k2 : n2 = true → 0 < c2) (k3 : n3 = true → 0 < c3) :
    ∃ (nr : Bool) (cr sr : Nat), (∀ V, Fresh w V → Calls Tryz.prog 76 #[gd n1 s1 c1, gd n2 s2 c2, gd n3 s3 c3] V (VRet V (.tuple #[gd nr sr cr, .nilIface]))) ∧ sr ≤ 19 ∧ cr ≤ 9999999999999999999 ∧ (nr = true → 0 < cr) ∧
      ((fval n1 c1 s1 < fval n2 c2 s2 ∧ fval nr cr sr = fval n2 c2 s2) ∨ (¬ fval n1 c1 s1 < fval n2 c2 s2 ∧ fval n3 c3 s3 < fval n1 c1 s1 ∧ fval nr cr sr = fval n3 c3 s3) ∨ (¬ fval n1 c1 s1 < fval n2 c2 s2 ∧ ¬ fval n3 c3 s3 < fval n1 c1 s1 ∧ fval nr cr sr = fval n1 c1 s1)) := by
  have hz1 : ¬ 0 < cmpZ (fval n2 c2 s2) (fval n3 c3 s3) := by rw [cmpZ_gt]; omega
  have gcm := fun V (hV : Fresh w V) W (h : Fresh V W) => hcm W (fresh_trans hV h)
  have g23 := fun V (hV : Fresh w V) W (h : Fresh V W) => h23 W (fresh_trans hV h)
  have g12 := fun V (hV : Fresh w V) W (h : Fresh V W) => h12 W (fresh_trans hV h)
  have g13 := fun V (hV : Fresh w V) W (h : Fresh V W) => h13 W (fresh_trans hV h)
  by_cases hsw : 0 < ctot (cmpZ (fval n2 c2 s2) (fval n3 c3 s3)) s2 s3
  · have g0 := ctot_gt hsw
    by_cases ha : ctot (cmpZ (fval n1 c1 s1) (fval n3 c3 s3)) s1 s3 < 0
    · have g1 := ctot_lt ha
      exact ⟨n3, c3, s3, fun V hV => Clamp_sw_min n1 n2 n3 c1 s1 c2 s2 c3 s3 _ _ _ V (gcm V hV) hz1 (g23 V hV) hsw (g13 V hV) ha, hs3, hc3, k3, by omega⟩
    · have g1 := ctot_nlt ha
      by_cases hb : 0 < ctot (cmpZ (fval n1 c1 s1) (fval n2 c2 s2)) s1 s2
      · have g2 := ctot_gt hb
        exact ⟨n2, c2, s2, fun V hV => Clamp_sw_max n1 n2 n3 c1 s1 c2 s2 c3 s3 _ _ _ _ V (gcm V hV) hz1 (g23 V hV) hsw (g13 V hV) ha (g12 V hV) hb, hs2, hc2, k2, by omega⟩
      · have g2 := ctot_ngt hb
        exact ⟨n1, c1, s1, fun V hV => Clamp_sw_d n1 n2 n3 c1 s1 c2 s2 c3 s3 _ _ _ _ V (gcm V hV) hz1 (g23 V hV) hsw (g13 V hV) ha (g12 V hV) hb, hs1, hc1, k1, by omega⟩
  · have g0 := ctot_ngt hsw
    by_cases ha : ctot (cmpZ (fval n1 c1 s1) (fval n2 c2 s2)) s1 s2 < 0
    · have g1 := ctot_lt ha
      exact ⟨n2, c2, s2, fun V hV => Clamp_id_min n1 n2 n3 c1 s1 c2 s2 c3 s3 _ _ _ V (gcm V hV) hz1 (g23 V hV) hsw (g12 V hV) ha, hs2, hc2, k2, by omega⟩
    · have g1 := ctot_nlt ha
      by_cases hb : 0 < ctot (cmpZ (fval n1 c1 s1) (fval n3 c3 s3)) s1 s3
      · have g2 := ctot_gt hb
        exact ⟨n3, c3, s3, fun V hV => Clamp_id_max n1 n2 n3 c1 s1 c2 s2 c3 s3 _ _ _ _ V (gcm V hV) hz1 (g23 V hV) hsw (g12 V hV) ha (g13 V hV) hb, hs3, hc3, k3, by omega⟩
      · have g2 := ctot_ngt hb
        exact ⟨n1, c1, s1, fun V hV => Clamp_id_d n1 n2 n3 c1 s1 c2 s2 c3 s3 _ _ _ _ V (gcm V hV) hz1 (g23 V hV) hsw (g12 V hV) ha (g13 V hV) hb, hs1, hc1, k1, by omega⟩

theorem FnFixClamp_main (n1 n2 n3 : Bool) (c1 s1 c2 s2 c3 s3 : Nat) (w : World) (hG : Glob w) (hP : Pow10s w) (hE : ErrIs w) (hs1 : s1 ≤ 19) (hs2 : s2 ≤ 19) (hs3 : s3 ≤ 19) (hc1 : c1 ≤ 9999999999999999999) (hc2 : c2 ≤ 9999999999999999999) (hc3 : c3 ≤ 9999999999999999999) :
    Calls Tryz.prog 11 #[fx n1 c1 s1, fx n2 c2 s2, fx n3 c3 s3] w (VRet w (.bool true)) := by
  obtain ⟨m1, e1⟩ : ∃ m, m = (n1 && decide (0 < c1)) := ⟨_, rfl⟩
  obtain ⟨m2, e2⟩ : ∃ m, m = (n2 && decide (0 < c2)) := ⟨_, rfl⟩
  obtain ⟨m3, e3⟩ : ∃ m, m = (n3 && decide (0 < c3)) := ⟨_, rfl⟩
  have k1 : m1 = true → 0 < c1 := fun h => canon_pos (by rw [← e1]; exact h)
  have k2 : m2 = true → 0 < c2 := fun h => canon_pos (by rw [← e2]; exact h)
  have k3 : m3 = true → 0 < c3 := fun h => canon_pos (by rw [← e3]; exact h)
  have v1 : fval m1 c1 s1 = fval n1 c1 s1 := by rw [e1, fval_canon]
  have v2 : fval m2 c2 s2 = fval n2 c2 s2 := by rw [e2, fval_canon]
  have v3 : fval m3 c3 s3 = fval n3 c3 s3 := by rw [e3, fval_canon]
  have hcm : ∀ W, Fresh w W → Calls Tryz.prog 46 #[gd m2 s2 c2, gd m3 s3 c3] W (VRet W (.int .i64 (cmpZ (fval m2 c2 s2) (fval m3 c3 s3)))) := fun W h => by
    have := Cmp_any m2 m3 c2 s2 c3 s3 W (hG.fresh h) (hP.fresh h) (hE.fresh h) hs2 hs3 hc2 hc3 k2 k3
    rw [zcmp_fval hs2 hs3] at this
    exact this
  have h23 : ∀ W, Fresh w W → Calls Tryz.prog 106 #[gd m2 s2 c2, gd m3 s3 c3] W (VRet W (.int .i64 (ctot (cmpZ (fval m2 c2 s2) (fval m3 c3 s3)) s2 s3))) := fun W h => by
    have := CmpTotal_any m2 m3 c2 s2 c3 s3 W (hG.fresh h) (hP.fresh h) (hE.fresh h) hs2 hs3 hc2 hc3 k2 k3
    rw [zcmp_fval hs2 hs3] at this
    exact this
  have h12 : ∀ W, Fresh w W → Calls Tryz.prog 106 #[gd m1 s1 c1, gd m2 s2 c2] W (VRet W (.int .i64 (ctot (cmpZ (fval m1 c1 s1) (fval m2 c2 s2)) s1 s2))) := fun W h => by
    have := CmpTotal_any m1 m2 c1 s1 c2 s2 W (hG.fresh h) (hP.fresh h) (hE.fresh h) hs1 hs2 hc1 hc2 k1 k2
    rw [zcmp_fval hs1 hs2] at this
    exact this
  have h13 : ∀ W, Fresh w W → Calls Tryz.prog 106 #[gd m1 s1 c1, gd m3 s3 c3] W (VRet W (.int .i64 (ctot (cmpZ (fval m1 c1 s1) (fval m3 c3 s3)) s1 s3))) := fun W h => by
    have := CmpTotal_any m1 m3 c1 s1 c3 s3 W (hG.fresh h) (hP.fresh h) (hE.fresh h) hs1 hs3 hc1 hc3 k1 k3
    rw [zcmp_fval hs1 hs3] at this
    exact this
  have z23 : ∀ W x y, SFr W x (zfix n2 c2) (10 ^ s2) → SFr W y (zfix n3 c3) (10 ^ s3) → Calls Tryz.prog 19 #[x, y] W (IRet W (cmpZ (fval n2 c2 s2) (fval n3 c3 s3))) := fun W x y hx hy => by
    have := FracCmp_any x y _ _ _ _ W hx hy (zfix_spow hc2) (zfix_spow hc3) (ten_spow hs2) (ten_spow hs3)
    rw [← zcmp_fval hs2 hs3]
    exact this
  have z12 : ∀ W x y, SFr W x (zfix n1 c1) (10 ^ s1) → SFr W y (zfix n2 c2) (10 ^ s2) → Calls Tryz.prog 19 #[x, y] W (IRet W (cmpZ (fval n1 c1 s1) (fval n2 c2 s2))) := fun W x y hx hy => by
    have := FracCmp_any x y _ _ _ _ W hx hy (zfix_spow hc1) (zfix_spow hc2) (ten_spow hs1) (ten_spow hs2)
    rw [← zcmp_fval hs1 hs2]
    exact this
  have z13 : ∀ W x y, SFr W x (zfix n1 c1) (10 ^ s1) → SFr W y (zfix n3 c3) (10 ^ s3) → Calls Tryz.prog 19 #[x, y] W (IRet W (cmpZ (fval n1 c1 s1) (fval n3 c3 s3))) := fun W x y hx hy => by
    have := FracCmp_any x y _ _ _ _ W hx hy (zfix_spow hc1) (zfix_spow hc3) (ten_spow hs1) (ten_spow hs3)
    rw [← zcmp_fval hs1 hs3]
    exact this
  by_cases hgt : fval n3 c3 s3 < fval n2 c2 s2
  · exact FnFixClamp_err n1 n2 n3 c1 s1 c2 s2 c3 s3 w hs1 hs2 hs3 hc1 hc2 hc3 _ (cmpZ_gt.2 hgt) (fun W hW => FixClamp_err n1 n2 n3 c1 s1 c2 s2 c3 s3 W hs1 hs2 hs3 hc1 hc2 hc3 (fun V hV => by
      rw [← e1, ← e2, ← e3]
      exact Clamp_err m1 m2 m3 c1 s1 c2 s2 c3 s3 _ V (fun U hU => hcm U (fresh_trans hW (fresh_trans hV hU))) (by rw [cmpZ_gt, v2, v3]; exact hgt))) z23
  · obtain ⟨nr, cr, sr, hcl, hsr, hcr, hk, hval⟩ := clamp_pick m1 m2 m3 c1 s1 c2 s2 c3 s3 w hs1 hs2 hs3 hc1 hc2 hc3 (by rw [v2, v3]; omega) hcm h23 h12 h13 k1 k2 k3
    rw [v1, v2, v3] at hval
    have hok : ∀ W, Fresh w W → Calls Tryz.prog 35 #[fx n1 c1 s1, fx n2 c2 s2, fx n3 c3 s3] W (VRet W (.tuple #[fx nr cr sr, .int .i64 0])) := fun W hW =>
      FixClamp_ok n1 n2 n3 nr c1 s1 c2 s2 c3 s3 cr sr W hs1 hs2 hs3 hc1 hc2 hc3 hsr (fun V hV => by
        rw [← e1, ← e2, ← e3]
        exact hcl V (fresh_trans hW hV))
    have has : ∀ (n : Bool) (c s : Nat), s ≤ 19 → c ≤ 9999999999999999999 → fval nr cr sr = fval n c s → ∀ W x, SFr W x (zfix n c) (10 ^ s) → Calls Tryz.prog 36 #[fx nr cr sr, x] W (VRet W (.bool true)) := fun n c s hs hc he W x hx =>
      FixHas_same nr cr sr x W hsr hcr hk _ _ (zfix_spow hc) (ten_spow hs) (by
        have := zcmp_fval (n1 := nr) (c1 := cr) (n2 := n) (c2 := c) hsr hs
        unfold zcmp at this
        rw [this, he]
        unfold cmpZ
        rw [if_neg (by omega), if_neg (by omega)]) hx
    rcases hval with ⟨a, b⟩ | ⟨a, b, c⟩ | ⟨a, b, c⟩
    · exact FnFixClamp_e n1 n2 n3 nr c1 s1 c2 s2 c3 s3 cr sr w hs1 hs2 hs3 hc1 hc2 hc3 _ (by rw [cmpZ_gt]; exact hgt) _ (cmpZ_lt.2 a) hok z23 z12 (has _ _ _ hs2 hc2 b)
    · exact FnFixClamp_g n1 n2 n3 nr c1 s1 c2 s2 c3 s3 cr sr w hs1 hs2 hs3 hc1 hc2 hc3 _ (by rw [cmpZ_gt]; exact hgt) _ (by rw [cmpZ_lt]; exact a) _ (cmpZ_gt.2 b) hok z23 z12 z13 (has _ _ _ hs3 hc3 c)
    · exact FnFixClamp_d n1 n2 n3 nr c1 s1 c2 s2 c3 s3 cr sr w hs1 hs2 hs3 hc1 hc2 hc3 _ (by rw [cmpZ_gt]; exact hgt) _ (by rw [cmpZ_lt]; exact a) _ (by rw [cmpZ_gt]; exact b) hok z23 z12 z13 (has _ _ _ hs1 hc1 c)

end Go.Proofs.YtibaeafmgncjdaaGreatDoor
