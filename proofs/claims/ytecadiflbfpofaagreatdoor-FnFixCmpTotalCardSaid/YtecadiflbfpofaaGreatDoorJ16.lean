/- FnFixCmpTotal's walk. -/
import Derived.Test.YtecadiflbfpofaaGreatDoorJ14
import Derived.Test.YtecadiflbfpofaaGreatDoorJ15
namespace Go.Proofs.YtecadiflbfpofaaGreatDoor
open Go.RowKit

set_option maxRecDepth 20000 in
set_option maxHeartbeats 2000000 in
theorem FnFixCmpTotal_out (n1 n2 : Bool) (c1 c2 : Nat) (s1 s2 : Int) (w : World) (h : (fixIs c1 s1 && fixIs c2 s2) = false) :
    Calls Tryz.prog 6 #[.agg #[.bool n1, .int .u64 c1, .int .i64 s1], .agg #[.bool n2, .int .u64 c2, .int .i64 s2]] w (VRet w (.bool true)) := by
  obtain ⟨g, hg⟩ : ∃ g, g = w.heap.size := ⟨_, rfl⟩
  have bx := boxes3 w #[.bool n1, .int .u64 c1, .int .i64 s1] #[.bool n2, .int .u64 c2, .int .i64 s2] #[.bool n1, .int .u64 c1, .int .i64 s1, .bool n2, .int .u64 c2, .int .i64 s2] 24 24 24 g hg
  have H_bx := Lib.hid bx; clear bx
  have H_h := Lib.hid h; clear h
  go_enter Tryz.func6, Tryz.ntmps6
  go_wp2_with (fail)
  generalize hw1 : ((w.alloc _).alloc _).alloc _ = w1
  rw [← hg]
  obtain ⟨b1, b2, b3, hf, hgs⟩ := H_bx.out w1 hw1
  refine (FixAll_two n1 n2 c1 c2 s1 s2 _ _ b3).mono ?_
  rintro e w2 ⟨rfl, f2⟩
  rw [H_h.out]
  have H_b1 := Lib.hid b1; clear b1
  have H_b2 := Lib.hid b2; clear b2
  have H_b3 := Lib.hid b3; clear b3
  have H_hf := Lib.hid hf; clear hf
  have H_hw1 := Lib.hid hw1; clear hw1
  have H_hg := Lib.hid hg; clear hg
  have H_hgs := Lib.hid hgs; clear hgs
  have H_f2 := Lib.hid f2; clear f2
  go_wp2_with (fail)
  go_ret
  exact ⟨rfl, fresh_trans H_hf.out H_f2.out⟩

set_option maxRecDepth 20000 in
set_option maxHeartbeats 4000000 in
theorem FnFixCmpTotal_main (n1 n2 : Bool) (c1 s1 c2 s2 : Nat) (w : World) (hG : Glob w) (hP : Pow10s w) (hE : ErrIs w) (hs1 : s1 ≤ 19) (hs2 : s2 ≤ 19) (hc1 : c1 ≤ 9999999999999999999) (hc2 : c2 ≤ 9999999999999999999) :
    Calls Tryz.prog 6 #[fx n1 c1 s1, fx n2 c2 s2] w (VRet w (.bool true)) := by
  have h : (fixIs c1 s1 && fixIs c2 s2) = true := by unfold fixIs; simp; omega
  have hct := fun W (hW : Fresh w W) => FixCmpTotal_any n1 n2 s1 c1 s2 c2 (ctot (zcmp n1 c1 s1 n2 c2 s2) s1 s2) W hs1 hc1 hs2 hc2 (fun W2 h2 => by
    have := CmpTotal_any (n1 && decide (0 < c1)) (n2 && decide (0 < c2)) c1 s1 c2 s2 W2 (hG.fresh (fresh_trans hW h2)) (hP.fresh (fresh_trans hW h2)) (hE.fresh (fresh_trans hW h2)) hs1 hs2 hc1 hc2 canon_pos canon_pos
    rw [zcmp_canon] at this
    exact this)
  have hgt := fun W => gvTotal_any n1 n2 c1 s1 c2 s2 W hs1 hs2 hc1 hc2
  generalize ctot (zcmp n1 c1 s1 n2 c2 s2) s1 s2 = z at *
  obtain ⟨g, hg⟩ : ∃ g, g = w.heap.size := ⟨_, rfl⟩
  have bx := boxes3 w #[.bool n1, .int .u64 c1, .int .i64 s1] #[.bool n2, .int .u64 c2, .int .i64 s2] #[.bool n1, .int .u64 c1, .int .i64 s1, .bool n2, .int .u64 c2, .int .i64 s2] 24 24 24 g hg
  have H_bx := Lib.hid bx; clear bx
  have H_h := Lib.hid h; clear h
  have H_hct := Lib.hid hct; clear hct
  have H_hgt := Lib.hid hgt; clear hgt
  have H_hG := Lib.hid hG; clear hG
  have H_hP := Lib.hid hP; clear hP
  have H_hE := Lib.hid hE; clear hE
  go_enter Tryz.func6, Tryz.ntmps6
  go_wp2_with (fail)
  generalize hw1 : ((w.alloc _).alloc _).alloc _ = w1
  rw [← hg]
  obtain ⟨b1, b2, b3, hf, hgs⟩ := H_bx.out w1 hw1
  refine (FixAll_two n1 n2 c1 c2 s1 s2 _ _ b3).mono ?_
  rintro e w2 ⟨rfl, f2⟩
  rw [H_h.out]
  have d1 := row_fresh b1 f2
  have d2 := row_fresh b2 f2
  have hfa := fresh_trans hf f2
  have k0 := row_cell d1 0
  have k1 := row_cell d1 1
  have k2 := row_cell d1 2
  simp at k0 k1 k2
  have k3 := row_cell d2 0
  have k4 := row_cell d2 1
  have k5 := row_cell d2 2
  simp at k3 k4 k5
  clear b1 b2 b3 hf f2
  have H_d1 := Lib.hid d1; clear d1
  have H_d2 := Lib.hid d2; clear d2
  have H_hw1 := Lib.hid hw1; clear hw1
  have H_hg := Lib.hid hg; clear hg
  have H_hgs := Lib.hid hgs; clear hgs
  have H_hfa := Lib.hid hfa; clear hfa
  go_wp2_with (fail)
  refine (H_hct.out _ H_hfa.out).mono ?_
  rintro e w3 ⟨rfl, f3⟩
  have m0 := cell_fresh k0 f3
  have m1 := cell_fresh k1 f3
  have m2 := cell_fresh k2 f3
  have m3 := cell_fresh k3 f3
  have m4 := cell_fresh k4 f3
  have m5 := cell_fresh k5 f3
  have f4 := fresh_trans H_hfa.out f3
  clear k0 k1 k2 k3 k4 k5
  have H_f3 := Lib.hid f3; clear f3
  have H_f4 := Lib.hid f4; clear f4
  go_wp2_with (fail)
  refine (H_hgt.out _).mono ?_
  rintro e w4 ⟨rfl, f5⟩
  have f6 := fresh_trans H_f4.out f5
  clear m0 m1 m2 m3 m4 m5
  have H_f5 := Lib.hid f5; clear f5
  have H_f6 := Lib.hid f6; clear f6
  go_wp2_with (fail)
  refine (gvLives_any _).mono ?_
  rintro e w5 ⟨rfl, f7⟩
  have f8 := fresh_trans H_f6.out f7
  have H_f7 := Lib.hid f7; clear f7
  have H_f8 := Lib.hid f8; clear f8
  go_wp2_with (fail)
  go_ret
  exact ⟨by rfl, H_f8.out⟩

end Go.Proofs.YtecadiflbfpofaaGreatDoor
