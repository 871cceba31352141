/- The contracts of govalues' decimals: IsZero, MinScale, IsInt. -/
import Derived.Test.YtmgidnjpkbgmgabGreatDoorKB5
import Derived.Test.YtmgidnjpkbgmgabGreatDoorKB9
namespace Go.Proofs.YtmgidnjpkbgmgabGreatDoor
open Go.RowKit

theorem box1 (w : World) (c1 : Array Value) (T1 : TypeId) : ∀ g, g = w.heap.size → ∀ w1, w.alloc (.cells c1 T1) = w1 → w1.heap[g]? = some (.cells c1 T1 (0, 0)) ∧ Fresh w w1 := by
  rintro g rfl w1 rfl
  exact ⟨heap_alloc_new w _, (Keep.refl _ _).alloc _⟩

end Go.Proofs.YtmgidnjpkbgmgabGreatDoor

/- The contracts of govalues' whole numbers of 64 bits: mul, lsh; getters of two decimals. -/
namespace Go.Proofs.YtmgidnjpkbgmgabGreatDoor
open Go.RowKit

end Go.Proofs.YtmgidnjpkbgmgabGreatDoor

/- The contracts of the reference on govalues' decimals: FixNum, FixHas. -/
namespace Go.Proofs.YtmgidnjpkbgmgabGreatDoor
open Go.RowKit

/-- the numerator of a decimal of govalues -/
def zfix (neg : Bool) (c : Nat) : Int := if neg then -(c : Int) else (c : Int)

theorem sint_zfix {neg : Bool} {l : List Nat} {c : Nat} (hn : Norm l) (h : sval l = c) : sint (neg && decide (0 < l.length)) l = zfix neg c := by
  by_cases h0 : 0 < l.length
  · simp [h0, sint, zfix, h]
  · obtain rfl : l = [] := List.eq_nil_of_length_eq_zero (by omega)
    simp [sval] at h
    subst h
    cases neg <;> simp [sint, zfix, sval]

theorem len_of {l : List Nat} {c : Nat} (hn : Norm l) (h : sval l = c) (hc : c ≤ 9999999999999999999) : l.length ≤ 3 :=
  hn.s_len_le (by rw [h]; have : spow 3 = 1000000000000000000000000000 := rfl; omega)

set_option maxRecDepth 20000 in
set_option maxHeartbeats 2000000 in
theorem FixNum_any (neg : Bool) (c s : Nat) (w : World) (hs : s ≤ 19) (hc : c ≤ 9999999999999999999) :
    Calls Tryz.prog 19 #[fx neg c s] w (FRet w (zfix neg c) (10 ^ s)) := by
  obtain ⟨g, hg⟩ : ∃ g, g = w.heap.size := ⟨_, rfl⟩
  have bx := boxes2 w #[.bool neg, .int .u64 c, .int .i64 s] #[.bool false, .slice none 0 0, .slice none 0 0] 24 39 g hg
  have H_bx := Lib.hid bx; clear bx
  go_enter Tryz.func19, Tryz.ntmps19
  go_wp2_with (fail)
  generalize hw1 : (w.alloc _).alloc _ = w1
  rw [← hg]
  obtain ⟨b1, b2, hf⟩ := H_bx.out w1 hw1
  have H_b1 := Lib.hid b1; clear b1
  have H_b2 := Lib.hid b2; clear b2
  have H_hf := Lib.hid hf; clear hf
  have H_hw1 := Lib.hid hw1; clear hw1
  have H_hg := Lib.hid hg; clear hg
  refine (FixDec_any neg c s _ hs hc).mono ?_
  rintro e w2 ⟨v, l, rfl, r1, r2, r3, r4⟩
  obtain ⟨a, cc, rfl⟩ := r1.form
  have hz := sint_zfix (neg := neg) r2 r3
  have hl := len_of r2 r3 hc
  have hcall := DecFrac_any (neg && decide (0 < l.length)) _ l s w2 r1 r2 (by rintro rfl; simp) (by omega) (by omega)
  rw [hz] at hcall
  have H_r1 := Lib.hid r1; clear r1
  have H_r2 := Lib.hid r2; clear r2
  have H_r3 := Lib.hid r3; clear r3
  have H_r4 := Lib.hid r4; clear r4
  have H_hz := Lib.hid hz; clear hz
  have H_hcall := Lib.hid hcall; clear hcall
  generalize hbn : (neg && decide (0 < l.length)) = bn at *
  have H_hbn := Lib.hid hbn
  clear hbn
  go_wp2_with (fail)
  refine H_hcall.out.mono ?_
  rintro e w3 ⟨x, rfl, ⟨n2, v2, l2, dv, dl, rfl, s1, s2, s3, s4, s5, s6, s7⟩, hf3⟩
  obtain ⟨a2, cc2, rfl⟩ := s1.form
  obtain ⟨a3, cc3, rfl⟩ := s5.form
  have hfa := fresh_trans H_r4.out hf3
  have b4 := row_fresh H_b2.out hfa
  have p0 := row_cell b4 0
  have p1 := row_cell b4 1
  have p2 := row_cell b4 2
  simp at p0 p1 p2
  have q0 : w3.frozen? ⟨g + 1, 0, none⟩ = false := frozen_of_row _ _ _ _ _ b4
  have q1 : w3.frozen? ⟨g + 1, 1, none⟩ = false := frozen_of_row _ _ _ _ _ b4
  have q2 : w3.frozen? ⟨g + 1, 2, none⟩ = false := frozen_of_row _ _ _ _ _ b4
  have H_s1 := Lib.hid s1; clear s1
  have H_s2 := Lib.hid s2; clear s2
  have H_s3 := Lib.hid s3; clear s3
  have H_s4 := Lib.hid s4; clear s4
  have H_s5 := Lib.hid s5; clear s5
  have H_s6 := Lib.hid s6; clear s6
  have H_s7 := Lib.hid s7; clear s7
  have H_hf3 := Lib.hid hf3; clear hf3
  have H_hfa := Lib.hid hfa; clear hfa
  have H_b4 := Lib.hid b4; clear b4
  go_wp2_with (fail)
  refine bodyPost_ret (results_cell_row rfl _ _ (g + 1) 39 #[.bool n2, .slice a2 l2.length cc2, .slice a3 dl.length cc3] (0, 0) _ rfl (row_set (row_set (row_set H_b4.out))) Tryz.underlying39 rfl (by kernel_rfl)) rfl ?_
  have f1 := H_s1.out.off p0 (fun n e => by simp at e)
  have f2 := H_s5.out.off p0 (fun n e => by simp at e)
  exact ⟨_, rfl, ⟨n2, _, l2, _, dl, rfl, ((H_s1.out.setOff f1).setOff f1).setOff f1, H_s2.out, H_s3.out, H_s4.out, ((H_s5.out.setOff f2).setOff f2).setOff f2, H_s6.out, H_s7.out⟩, (fresh_trans H_hf.out H_hfa.out).set3 (by have := H_hg.out; omega)⟩

theorem ten_spow {s : Nat} (hs : s ≤ 19) : 10 ^ s < spow 1000 := by
  have h1 : 10 ^ s ≤ 10 ^ 19 := Nat.pow_le_pow_right (by omega) hs
  have h2 := spow_mono (m := 3) (n := 1000) (by omega)
  have h3 : spow 3 = 1000000000000000000000000000 := rfl
  omega

theorem zfix_spow {neg : Bool} {c : Nat} (hc : c ≤ 9999999999999999999) : (zfix neg c).natAbs < spow 1000 := by
  have h1 : (zfix neg c).natAbs = c := by unfold zfix; split <;> simp
  have h2 := spow_mono (m := 3) (n := 1000) (by omega)
  have h3 : spow 3 = 1000000000000000000000000000 := rfl
  rw [h1]; omega

end Go.Proofs.YtmgidnjpkbgmgabGreatDoor

/- The contracts of the reference on govalues' decimals: FixSame. -/
namespace Go.Proofs.YtmgidnjpkbgmgabGreatDoor
open Go.RowKit

end Go.Proofs.YtmgidnjpkbgmgabGreatDoor

/- The contracts of the reference on govalues' decimals: FixAll of two. -/
namespace Go.Proofs.YtmgidnjpkbgmgabGreatDoor
open Go.RowKit

set_option maxRecDepth 20000 in
set_option maxHeartbeats 2000000 in
theorem FixAll_two (n1 n2 : Bool) (c1 c2 : Nat) (s1 s2 : Int) (g : Nat) (w : World) (hb : w.heap[g]? = some (.cells #[.bool n1, .int .u64 c1, .int .i64 s1, .bool n2, .int .u64 c2, .int .i64 s2] 24 (0, 0))) :
    Calls Tryz.prog 10 #[.slice (some ⟨g, 0, none⟩) 2 2] w (VRet w (.bool (fixIs c1 s1 && fixIs c2 s2))) := by
  have k0 := row_cell hb 0
  have k1 := row_cell hb 1
  have k2 := row_cell hb 2
  simp at k0 k1 k2
  have H_hb := Lib.hid hb; clear hb
  go_enter Tryz.func10, Tryz.ntmps10
  go_wp2_with (fail)
  refine wp_loop_rounds 3 ?_
  rw [rounds_succ]
  go_wp2_with (fail)
  refine (FixIs_any n1 c1 s1 _).mono ?_
  rintro e w2 ⟨rfl, hf2⟩
  have hfa : Fresh w w2 := fresh_trans ((Keep.refl _ _).alloc _) hf2
  have b2 := row_fresh H_hb.out hfa
  clear k0 k1 k2
  have k3 := row_cell b2 3
  have k4 := row_cell b2 4
  have k5 := row_cell b2 5
  simp at k3 k4 k5
  have H_hf2 := Lib.hid hf2; clear hf2
  have H_hfa := Lib.hid hfa; clear hfa
  have H_b2 := Lib.hid b2; clear b2
  cases h1 : fixIs c1 s1
  · go_wp2_with (fail)
    go_ret
    exact ⟨by rw [h1]; rfl, H_hfa.out⟩
  · go_wp2_with (fail)
    rw [rounds_succ]
    go_wp2_with (fail)
    refine (FixIs_any n2 c2 s2 _).mono ?_
    rintro e w3 ⟨rfl, hf3⟩
    have hfb : Fresh w w3 := fresh_trans H_hfa.out (fresh_trans ((Keep.refl _ _).alloc _) hf3)
    have H_hf3 := Lib.hid hf3; clear hf3
    have H_hfb := Lib.hid hfb; clear hfb
    cases h2 : fixIs c2 s2
    · go_wp2_with (fail)
      go_ret
      exact ⟨by rw [h1, h2]; rfl, H_hfb.out⟩
    · go_wp2_with (fail)
      rw [rounds_succ]
      go_wp2_with (fail)
      go_ret
      exact ⟨by rw [h1, h2]; rfl, H_hfb.out⟩

end Go.Proofs.YtmgidnjpkbgmgabGreatDoor

/- gvLives: 1.5 and 2 are 3.5. -/
namespace Go.Proofs.YtmgidnjpkbgmgabGreatDoor
open Go.RowKit

theorem lsh_lives (w : World) : Calls Tryz.prog 116 #[.int .u64 2, .int .i64 1] w (fun e w' => e = .returned (.tuple #[.int .u64 20, .bool true]) ∧ w' = w) := by
  go_enter Tryz.func116, Tryz.ntmps116
  go_wp2
  go_ret2
  exact ⟨rfl, rfl⟩

theorem add_lives (w : World) : Calls Tryz.prog 165 #[.int .u64 15, .int .u64 20] w (fun e w' => e = .returned (.tuple #[.int .u64 35, .bool true]) ∧ w' = w) := by
  go_enter Tryz.func165, Tryz.ntmps165
  go_wp2
  go_ret2
  exact ⟨rfl, rfl⟩

theorem newFromFint_lives (w : World) : Calls Tryz.prog 118 #[.bool false, .int .u64 35, .int .i64 1, .int .i64 0] w (VRet w (.tuple #[gd false 1 35, .nilIface])) := by
  go_enter Tryz.func118, Tryz.ntmps118
  go_wp2_with (fail)
  refine (newSafe_any false 1 35 _ (by omega) (by omega)).mono ?_
  rintro e w2 ⟨rfl, hf⟩
  have b := row_fresh (heap_alloc_new w _) hf
  have p0 := row_cell b 0
  have p1 := row_cell b 1
  have p2 := row_cell b 2
  simp at p0 p1 p2
  have q0 : w2.frozen? ⟨w.heap.size, 0, none⟩ = false := frozen_of_row _ _ _ _ _ b
  have q1 : w2.frozen? ⟨w.heap.size, 1, none⟩ = false := frozen_of_row _ _ _ _ _ b
  have q2 : w2.frozen? ⟨w.heap.size, 2, none⟩ = false := frozen_of_row _ _ _ _ _ b
  have H_b := Lib.hid b; clear b
  have H_hf := Lib.hid hf; clear hf
  go_wp2_with (fail)
  refine bodyPost_ret (results_cell_tmp_row rfl _ _ w.heap.size 60 #[.bool false, .int .i8 1, .int .u64 35] (0, 0) _ rfl (row_set (row_set (row_set H_b.out))) Tryz.underlying60 rfl (by kernel_rfl)) rfl ?_
  exact ⟨rfl, Fresh.set3 (fresh_trans ((Keep.refl _ _).alloc _) H_hf.out) (Nat.le_refl _)⟩

set_option maxRecDepth 20000 in
set_option maxHeartbeats 2000000 in
theorem addFint_lives (w : World) : Calls Tryz.prog 141 #[gd false 1 15, gd false 0 2, .int .i64 0] w (VRet w (.tuple #[gd false 1 35, .nilIface])) := by
  obtain ⟨g, hg⟩ : ∃ g, g = w.heap.size := ⟨_, rfl⟩
  have bx := boxes3 w #[.bool false, .int .i8 (1 : Nat), .int .u64 (15 : Nat)] #[.bool false, .int .i8 (0 : Nat), .int .u64 (2 : Nat)] #[.bool false, .int .i8 0, .int .u64 0] 60 60 60 g hg
  have H_bx := Lib.hid bx; clear bx
  go_enter Tryz.func141, Tryz.ntmps141
  go_wp2_with (fail)
  generalize hw1 : ((w.alloc _).alloc _).alloc _ = w1
  rw [← hg]
  obtain ⟨b1, b2, b3, hf, hgs⟩ := H_bx.out w1 hw1
  have k0 := row_cell b1 0
  have k1 := row_cell b1 1
  have k2 := row_cell b1 2
  have k3 := row_cell b2 0
  have k4 := row_cell b2 1
  have k5 := row_cell b2 2
  simp at k0 k1 k2 k3 k4 k5
  have H_b1 := Lib.hid b1; clear b1
  have H_b2 := Lib.hid b2; clear b2
  have H_b3 := Lib.hid b3; clear b3
  have H_hf := Lib.hid hf; clear hf
  have H_hw1 := Lib.hid hw1; clear hw1
  have H_hg := Lib.hid hg; clear hg
  have H_hgs := Lib.hid hgs; clear hgs
  refine (Scale_any false 1 15 _ (by omega)).mono ?_
  rintro e w2 ⟨rfl, f2⟩
  have m0 := cell_fresh k0 f2
  have m1 := cell_fresh k1 f2
  have m2 := cell_fresh k2 f2
  have m3 := cell_fresh k3 f2
  have m4 := cell_fresh k4 f2
  have m5 := cell_fresh k5 f2
  clear k0 k1 k2 k3 k4 k5
  have H_f2 := Lib.hid f2
  clear f2
  go_wp2_with (fail)
  refine (IsNeg_any false 1 15 _).mono ?_
  rintro e w3 ⟨rfl, f3⟩
  have n0 := cell_fresh m0 f3
  have n1 := cell_fresh m1 f3
  have n2 := cell_fresh m2 f3
  have n3 := cell_fresh m3 f3
  have n4 := cell_fresh m4 f3
  have n5 := cell_fresh m5 f3
  clear m0 m1 m2 m3 m4 m5
  have H_f3 := Lib.hid f3
  clear f3
  go_wp2_with (fail)
  refine (Scale_any false 0 2 _ (by omega)).mono ?_
  rintro e w4 ⟨rfl, f4⟩
  have o0 := cell_fresh n0 f4
  have o1 := cell_fresh n1 f4
  have o2 := cell_fresh n2 f4
  have o3 := cell_fresh n3 f4
  have o4 := cell_fresh n4 f4
  have o5 := cell_fresh n5 f4
  clear n0 n1 n2 n3 n4 n5
  have H_f4 := Lib.hid f4
  clear f4
  go_wp2_with (fail)
  refine (Scale_any false 0 2 _ (by omega)).mono ?_
  rintro e w5 ⟨rfl, f5⟩
  have u0 := cell_fresh o0 f5
  have u1 := cell_fresh o1 f5
  have u2 := cell_fresh o2 f5
  have u3 := cell_fresh o3 f5
  have u4 := cell_fresh o4 f5
  have u5 := cell_fresh o5 f5
  clear o0 o1 o2 o3 o4 o5
  have H_f5 := Lib.hid f5
  clear f5
  go_wp2_with (fail)
  refine (lsh_lives _).mono ?_
  rintro e _ ⟨rfl, rfl⟩
  go_wp2_with (fail)
  refine (IsNeg_any false 0 2 _).mono ?_
  rintro e w6 ⟨rfl, f6⟩
  have v0 := cell_fresh u0 f6
  have v1 := cell_fresh u1 f6
  have v2 := cell_fresh u2 f6
  have v3 := cell_fresh u3 f6
  have v4 := cell_fresh u4 f6
  have v5 := cell_fresh u5 f6
  clear u0 u1 u2 u3 u4 u5
  have H_f6 := Lib.hid f6
  clear f6
  go_wp2_with (fail)
  refine (add_lives _).mono ?_
  rintro e _ ⟨rfl, rfl⟩
  go_wp2_with (fail)
  refine (newFromFint_lives _).mono ?_
  rintro e w7 ⟨rfl, f7⟩
  have hfa : Fresh w1 w7 := fresh_trans (fresh_trans (fresh_trans (fresh_trans (fresh_trans H_f2.out H_f3.out) H_f4.out) H_f5.out) H_f6.out) f7
  have b4 := row_fresh H_b3.out hfa
  have p0 := row_cell b4 0
  have p1 := row_cell b4 1
  have p2 := row_cell b4 2
  simp at p0 p1 p2
  have q0 : w7.frozen? ⟨g + 1 + 1, 0, none⟩ = false := frozen_of_row _ _ _ _ _ b4
  have q1 : w7.frozen? ⟨g + 1 + 1, 1, none⟩ = false := frozen_of_row _ _ _ _ _ b4
  have q2 : w7.frozen? ⟨g + 1 + 1, 2, none⟩ = false := frozen_of_row _ _ _ _ _ b4
  have H_b4 := Lib.hid b4; clear b4
  have H_hfa := Lib.hid hfa; clear hfa
  have H_f7 := Lib.hid f7; clear f7
  go_wp2_with (fail)
  refine bodyPost_ret (results_cell_tmp_row rfl _ _ (g + 1 + 1) 60 #[.bool false, .int .i8 1, .int .u64 35] (0, 0) _ rfl (row_set (row_set (row_set H_b4.out))) Tryz.underlying60 rfl (by kernel_rfl)) rfl ?_
  exact ⟨rfl, Fresh.set3 (fresh_trans H_hf.out H_hfa.out) (by have := H_hg.out; omega)⟩

end Go.Proofs.YtmgidnjpkbgmgabGreatDoor

/- gvLives: 1.5 and 2 are 3.5: AddExact, Add. -/
namespace Go.Proofs.YtmgidnjpkbgmgabGreatDoor
open Go.RowKit

set_option maxRecDepth 20000 in
set_option maxHeartbeats 2000000 in
theorem AddExact_lives (w : World) : Calls Tryz.prog 119 #[gd false 1 15, gd false 0 2, .int .i64 0] w (VRet w (.tuple #[gd false 1 35, .nilIface])) := by
  obtain ⟨g, hg⟩ : ∃ g, g = w.heap.size := ⟨_, rfl⟩
  have bx := boxes3 w #[.bool false, .int .i8 (1 : Nat), .int .u64 (15 : Nat)] #[.bool false, .int .i8 (0 : Nat), .int .u64 (2 : Nat)] #[.bool false, .int .i8 0, .int .u64 0] 60 60 60 g hg
  have H_bx := Lib.hid bx; clear bx
  go_enter Tryz.func119, Tryz.ntmps119
  go_wp2_with (fail)
  generalize hw1 : ((w.alloc _).alloc _).alloc _ = w1
  rw [← hg]
  obtain ⟨b1, b2, b3, hf, hgs⟩ := H_bx.out w1 hw1
  have H_b1 := Lib.hid b1; clear b1
  have H_b2 := Lib.hid b2; clear b2
  have H_b3 := Lib.hid b3; clear b3
  have H_hf := Lib.hid hf; clear hf
  have H_hw1 := Lib.hid hw1; clear hw1
  have H_hg := Lib.hid hg; clear hg
  have H_hgs := Lib.hid hgs; clear hgs
  refine (addFint_lives _).mono ?_
  rintro e w2 ⟨rfl, f2⟩
  have f3 := fresh_trans f2 ((Keep.refl (fun _ => False) w2).alloc (.cells #[.bool false, .int .i8 1, .int .u64 35] 60))
  have b4 := row_fresh H_b3.out f3
  have p0 := row_cell b4 0
  have p1 := row_cell b4 1
  have p2 := row_cell b4 2
  have q0 := frozen_of_row _ _ 0 _ _ b4
  have q1 := frozen_of_row _ _ 1 _ _ b4
  have q2 := frozen_of_row _ _ 2 _ _ b4
  have H_f2 := Lib.hid f2; clear f2
  have H_f3 := Lib.hid f3; clear f3
  have H_b4 := Lib.hid b4; clear b4
  go_wp2_with (fail)
  refine bodyPost_ret (results_cell_tmp_row rfl _ _ (g + 1 + 1) 60 #[.bool false, .int .i8 1, .int .u64 35] (0, 0) _ rfl (row_set (row_set (row_set H_b4.out))) Tryz.underlying60 rfl (by kernel_rfl)) rfl ?_
  exact ⟨rfl, Fresh.set3 (fresh_trans H_hf.out H_f3.out) (by have := H_hg.out; omega)⟩

set_option maxRecDepth 20000 in
set_option maxHeartbeats 2000000 in
theorem Add_lives (w : World) : Calls Tryz.prog 90 #[gd false 1 15, gd false 0 2] w (VRet w (.tuple #[gd false 1 35, .nilIface])) := by
  obtain ⟨g, hg⟩ : ∃ g, g = w.heap.size := ⟨_, rfl⟩
  have bx := boxes3 w #[.bool false, .int .i8 (1 : Nat), .int .u64 (15 : Nat)] #[.bool false, .int .i8 (0 : Nat), .int .u64 (2 : Nat)] #[.bool false, .int .i8 0, .int .u64 0] 60 60 60 g hg
  have H_bx := Lib.hid bx; clear bx
  go_enter Tryz.func90, Tryz.ntmps90
  go_wp2_with (fail)
  generalize hw1 : ((w.alloc _).alloc _).alloc _ = w1
  rw [← hg]
  obtain ⟨b1, b2, b3, hf, hgs⟩ := H_bx.out w1 hw1
  have H_b1 := Lib.hid b1; clear b1
  have H_b2 := Lib.hid b2; clear b2
  have H_b3 := Lib.hid b3; clear b3
  have H_hf := Lib.hid hf; clear hf
  have H_hw1 := Lib.hid hw1; clear hw1
  have H_hg := Lib.hid hg; clear hg
  have H_hgs := Lib.hid hgs; clear hgs
  refine (AddExact_lives _).mono ?_
  rintro e w2 ⟨rfl, f2⟩
  have b4 := row_fresh H_b3.out f2
  have p0 := row_cell b4 0
  have p1 := row_cell b4 1
  have p2 := row_cell b4 2
  simp at p0 p1 p2
  have q0 := frozen_of_row _ _ 0 _ _ b4
  have q1 := frozen_of_row _ _ 1 _ _ b4
  have q2 := frozen_of_row _ _ 2 _ _ b4
  have H_f2 := Lib.hid f2; clear f2
  have H_b4 := Lib.hid b4; clear b4
  go_wp2_with (fail)
  refine bodyPost_ret (results_cell_tmp_row rfl _ _ (g + 1 + 1) 60 #[.bool false, .int .i8 1, .int .u64 35] (0, 0) _ rfl (row_set (row_set (row_set H_b4.out))) Tryz.underlying60 rfl (by kernel_rfl)) rfl ?_
  exact ⟨rfl, Fresh.set3 (fresh_trans H_hf.out H_f2.out) (by have := H_hg.out; omega)⟩

end Go.Proofs.YtmgidnjpkbgmgabGreatDoor

/- gvLives: 1.5 and 2 are 3.5: FixAdd. -/
namespace Go.Proofs.YtmgidnjpkbgmgabGreatDoor
open Go.RowKit

theorem FixAdd1_idle (p q : Addr) (w : World) :
    CallsD Tryz.prog 89 #[.pointer (some p), .pointer (some q)] .returning w fun e u' w' => e = .returned (.tuple #[]) ∧ u' = .returning ∧ w' = w := by
  refine callsD_of_wpS Tryz.func89 rfl fun c₀ cs hu => ?_
  apply wpS_seq
  apply wpS_region
  simp [wpOpsS, go_sem, recoverD, hu, Tryz.ntmps89, Exit.thenS]
  refine wpS_cond (t := false) (by simp [Act.eval, Array.replicate]) ?_
  simp only [Bool.false_eq_true, if_false]
  refine wpS_of_wp (wp_skip ?_)
  cases c₀
  simp_all [bodyPostS, results, Tryz.results89]

set_option maxRecDepth 20000 in
set_option maxHeartbeats 2000000 in
theorem FixAdd_lives (w : World) :
    Calls Tryz.prog 58 #[fx false 15 1, fx false 2 0] w (VRet w (.tuple #[fx false 35 1, .int .i64 0])) := by
  have hmf : ∀ (fn : Fn) (first cap : Array Value) (w : World), (Instr.makeFunc fn first cap).run Tryz.prog w = .ok (.func fn first cap) w := fun _ _ _ _ => rfl
  go_enter_defers Tryz.func58, Tryz.ntmps58
  go_wp2_with (fail)
  obtain ⟨g, hg⟩ : ∃ g, g = w.heap.size := ⟨_, rfl⟩
  have bx := boxes4 w #[.bool false, .int .u64 (15 : Nat), .int .i64 (1 : Nat)] #[.bool false, .int .u64 (2 : Nat), .int .i64 (0 : Nat)] #[.bool false, .int .u64 0, .int .i64 0] #[.int .i64 0] 24 24 24 3 g hg
  have H_bx := Lib.hid bx
  clear bx
  generalize hw1 : (((w.alloc _).alloc _).alloc _).alloc _ = w1
  rw [← hg]
  obtain ⟨b1, b2, b3, b4, hf⟩ := H_bx.out w1 hw1
  have H_b1 := Lib.hid b1; clear b1
  have H_b2 := Lib.hid b2; clear b2
  have H_b3 := Lib.hid b3; clear b3
  have H_b4 := Lib.hid b4; clear b4
  have H_hf := Lib.hid hf; clear hf
  have H_hw1 := Lib.hid hw1; clear hw1
  have H_hg := Lib.hid hg; clear hg
  refine (fixed_any false 1 15 _ (by omega) (by omega)).mono ?_
  rintro e w2 ⟨rfl, hf2⟩
  simp only [Bool.false_and]
  have d2 := row_fresh H_b2.out hf2
  have k0 := row_cell d2 0
  have k1 := row_cell d2 1
  have k2 := row_cell d2 2
  simp at k0 k1 k2
  have a0 := fun o => cell_fresh k0 ((Keep.refl (fun _ => False) w2).alloc o)
  have a1 := fun o => cell_fresh k1 ((Keep.refl (fun _ => False) w2).alloc o)
  have a2 := fun o => cell_fresh k2 ((Keep.refl (fun _ => False) w2).alloc o)
  obtain ⟨h, hh⟩ : ∃ h, h = w2.heap.size := ⟨_, rfl⟩
  clear k0 k1 k2
  have H_hf2 := Lib.hid hf2; clear hf2
  have H_d2 := Lib.hid d2; clear d2
  have H_hh := Lib.hid hh; clear hh
  go_wp2_with (fail)
  generalize hw3 : w2.alloc _ = w3
  have hf3 : Fresh w2 w3 := by rw [← hw3]; exact (Keep.refl _ _).alloc _
  have e1 : w3.heap[h]? = some (.cells #[.bool false, .int .i8 (1 : Nat), .int .u64 (15 : Nat)] 60 (0, 0)) := by rw [← hw3, H_hh.out]; exact heap_alloc_new w2 _
  rw [← H_hh.out]
  clear a0 a1 a2
  have H_hw3 := Lib.hid hw3; clear hw3
  have H_hf3 := Lib.hid hf3; clear hf3
  have H_e1 := Lib.hid e1; clear e1
  refine (fixed_any false 0 2 _ (by omega) (by omega)).mono ?_
  rintro e w4 ⟨rfl, hf4⟩
  simp only [Bool.false_and]
  have e2 := row_fresh H_e1.out hf4
  have k0 := row_cell e2 0
  have k1 := row_cell e2 1
  have k2 := row_cell e2 2
  simp at k0 k1 k2
  have a0 := fun o => cell_fresh k0 ((Keep.refl (fun _ => False) w4).alloc o)
  have a1 := fun o => cell_fresh k1 ((Keep.refl (fun _ => False) w4).alloc o)
  have a2 := fun o => cell_fresh k2 ((Keep.refl (fun _ => False) w4).alloc o)
  clear k0 k1 k2
  have H_hf4 := Lib.hid hf4; clear hf4
  have H_e2 := Lib.hid e2; clear e2
  go_wp2_with (fail)
  generalize hw5 : w4.alloc _ = w5
  have hf5 : Fresh w4 w5 := by rw [← hw5]; exact (Keep.refl _ _).alloc _
  have H_hw5 := Lib.hid hw5; clear hw5
  have H_hf5 := Lib.hid hf5; clear hf5
  clear a0 a1 a2
  refine (Add_lives _).mono ?_
  rintro e w6 ⟨rfl, hf6⟩
  have H_hf6 := Lib.hid hf6
  clear hf6
  go_wp2_with (fail)
  generalize hw6 : w6.alloc _ = w6b
  have hf6b : Fresh w6 w6b := by rw [← hw6]; exact (Keep.refl _ _).alloc _
  have H_hw6 := Lib.hid hw6; clear hw6
  have H_hf6b := Lib.hid hf6b; clear hf6b
  refine (fix_any false 1 35 _ (by omega)).mono ?_
  rintro e w7 ⟨rfl, hf7⟩
  have hfa : Fresh w1 w7 := fresh_trans (fresh_trans (fresh_trans (fresh_trans (fresh_trans (fresh_trans H_hf2.out H_hf3.out) H_hf4.out) H_hf5.out) H_hf6.out) H_hf6b.out) hf7
  have c2' := row_fresh H_b3.out hfa
  have c3 := row_fresh H_b4.out hfa
  have p0 := row_cell c2' 0
  have p1 := row_cell c2' 1
  have p2 := row_cell c2' 2
  have p3 := row_cell c3 0
  simp at p0 p1 p2 p3
  have q0 : w7.frozen? ⟨g + 1 + 1, 0, none⟩ = false := frozen_of_row _ _ _ _ _ c2'
  have q1 : w7.frozen? ⟨g + 1 + 1, 1, none⟩ = false := frozen_of_row _ _ _ _ _ c2'
  have q2 : w7.frozen? ⟨g + 1 + 1, 2, none⟩ = false := frozen_of_row _ _ _ _ _ c2'
  have q3 : w7.frozen? ⟨g + 1 + 1 + 1, 0, none⟩ = false := frozen_of_row _ _ _ _ _ c3
  have H_hf7 := Lib.hid hf7; clear hf7
  have H_hfa := Lib.hid hfa; clear hfa
  have H_c2' := Lib.hid c2'; clear c2'
  have H_c3 := Lib.hid c3; clear c3
  go_wp2_with (fail)
  refine leaves_cons (f := 89) (args := #[.pointer (some ⟨g + 1 + 1, 0, none⟩), .pointer (some ⟨g + 1 + 1 + 1, 0, none⟩)]) (by simp) (by simp [go_sem]) ?_
  refine (FixAdd1_idle _ _ _).mono ?_
  rintro e u' w'' ⟨rfl, rfl, rfl⟩
  have c4 : (w7.setCell ⟨g + 1 + 1, 0, none⟩ (.bool false)).heap[g + 1 + 1]? = _ := row_set H_c2'.out
  have c5 := row_set (i := 1) (v := .int .u64 35) c4
  have c6 := row_set (i := 2) (v := .int .i64 1) c5
  refine ⟨.tuple #[fx false 35 1, .int .i64 0], results_cell_cell rfl _ _ (g + 1 + 1) 24 #[.bool false, .int .u64 35, .int .i64 1] (0, 0) _ (g + 1 + 1 + 1) _ rfl rfl ?_ Tryz.underlying24 rfl (by kernel_rfl) ?_, ?_⟩
  · rw [row_far (by omega)]; exact c6
  · have hcell : ((((w7.setCell ⟨g + 1 + 1, 0, none⟩ (.bool false)).setCell ⟨g + 1 + 1, 1, none⟩ (.int .u64 35)).setCell ⟨g + 1 + 1, 2, none⟩ (.int .i64 1)).setCell ⟨g + 1 + 1 + 1, 0, none⟩ (.int .i64 0)).cell? ⟨g + 1 + 1 + 1, 0, none⟩ = some (.int .i64 0) :=
      cell?_setCell_eq rfl (by rw [far3 (by omega) p3]; rfl)
    simp [loadVar, go_sem, hcell]
  · exact ⟨rfl, ((fresh_trans H_hf.out H_hfa.out).set3 (by have := H_hg.out; omega)).setCell (fun h => by have := H_hg.out; change g + 1 + 1 + 1 < w.heap.size at h; omega) _⟩

end Go.Proofs.YtmgidnjpkbgmgabGreatDoor

/- gvLives: 1.5 and 2 are 3.5. -/
namespace Go.Proofs.YtmgidnjpkbgmgabGreatDoor
open Go.RowKit

set_option maxRecDepth 20000 in
set_option maxHeartbeats 2000000 in
theorem gvLives_any (w : World) : Calls Tryz.prog 27 #[] w (VRet w (.bool true)) := by
  go_enter Tryz.func27, Tryz.ntmps27
  go_wp2_with (fail)
  refine (FixAdd_lives _).mono ?_
  rintro e w2 ⟨rfl, hf2⟩
  have hf3 := fun o => fresh_trans hf2 ((Keep.refl (fun _ => False) w2).alloc o)
  have H_hf2 := Lib.hid hf2; clear hf2
  have H_hf3 := Lib.hid hf3; clear hf3
  go_wp2_with (fail)
  go_ret
  exact ⟨rfl, H_hf3.out _⟩

end Go.Proofs.YtmgidnjpkbgmgabGreatDoor

/- The contracts of the reference on govalues' decimals: FixHas of a fraction of the same worth; FixAll of three. -/
namespace Go.Proofs.YtmgidnjpkbgmgabGreatDoor
open Go.RowKit

set_option maxRecDepth 20000 in
set_option maxHeartbeats 2000000 in
theorem FixHasG_f (c s : Nat) (xw : Value) (w : World) (hs : s ≤ 19) (hc : c ≤ 9999999999999999999) (zx : Int) (dx : Nat) (hzx : zx.natAbs < spow 1000) (hdx : dx < spow 1000) (hq : cmpZ (zfix false c * (dx : Int)) (zx * ((10 ^ s : Nat) : Int)) = 0) (hx : SFr w xw zx dx) :
    Calls Tryz.prog 20 #[fx false c s, xw] w (VRet w (.bool true)) := by
  obtain ⟨nb, v2, l2, dv, dl, rfl, s1, s2, s3, s4, s5, s6, s7⟩ := hx
  obtain ⟨a2, cc2, rfl⟩ := s1.form
  obtain ⟨a3, cc3, rfl⟩ := s5.form
  have hx : SFr w (.agg #[.bool nb, .slice a2 l2.length cc2, .slice a3 dl.length cc3]) zx dx := ⟨nb, _, l2, _, dl, rfl, s1, s2, s3, s4, s5, s6, s7⟩
  have his : fixIs c s = true := by unfold fixIs; simp; omega
  obtain ⟨g, hg⟩ : ∃ g, g = w.heap.size := ⟨_, rfl⟩
  have bx := boxes2 w #[.bool false, .int .u64 c, .int .i64 s] #[.bool nb, .slice a2 l2.length cc2, .slice a3 dl.length cc3] 24 39 g hg
  clear s1 s2 s3 s4 s5 s6 s7
  have H_bx := Lib.hid bx; clear bx
  have H_hx := Lib.hid hx; clear hx
  have H_his := Lib.hid his; clear his
  have H_hzx := Lib.hid hzx; clear hzx
  have H_hdx := Lib.hid hdx; clear hdx
  have H_hq := Lib.hid hq; clear hq
  go_enter Tryz.func20, Tryz.ntmps20
  go_wp2_with (fail)
  generalize hw1 : (w.alloc _).alloc _ = w1
  rw [← hg]
  obtain ⟨b1, b2, hf⟩ := H_bx.out w1 hw1
  have k0 := row_cell b1 0
  have k1 := row_cell b1 1
  have k2 := row_cell b1 2
  have k3 := row_cell b2 0
  have k4 := row_cell b2 1
  have k5 := row_cell b2 2
  simp at k0 k1 k2 k3 k4 k5
  have H_b1 := Lib.hid b1; clear b1
  have H_b2 := Lib.hid b2; clear b2
  have H_hf := Lib.hid hf; clear hf
  have H_hw1 := Lib.hid hw1; clear hw1
  have H_hg := Lib.hid hg; clear hg
  have hcallIs : ∀ W, Calls Tryz.prog 16 #[fx false c s] W (VRet W (.bool true)) := fun W => by have := FixIs_any false c (s : Int) W; rw [H_his.out] at this; exact this
  have H_hcallIs := Lib.hid hcallIs
  clear hcallIs
  refine wp_region_E (S := (fun (w' : World) => w'.cell? ⟨g, 0, none⟩ = some (.bool false) ∧ w'.cell? ⟨g, 1, none⟩ = some (.int .u64 c) ∧ w'.cell? ⟨g, 2, none⟩ = some (.int .i64 s) ∧ w'.cell? ⟨g + 1, 0, none⟩ = some (.bool nb) ∧ w'.cell? ⟨g + 1, 1, none⟩ = some (.slice a2 l2.length cc2) ∧ w'.cell? ⟨g + 1, 2, none⟩ = some (.slice a3 dl.length cc3))) 19 (by kernel_rfl) (by exact ⟨k0, k1, k2, k3, k4, k5⟩) (fun hHeld => ?_)
  refine wpAnyE_takeL (i := 0) (c := 1) (v := ?v0_1) rfl (by kernel_rfl) (fun _ _ _ h => h) ⟨by rfl, ?y0_1⟩ (by assumption) ?r0_1
  case y0_1 => (intro w hSw; go_split_ands; go_simp; try with_reducible rfl)
  try simp only [Act.put, yA, yB, yD, yE, yF]
  refine wpAnyE_one (i := 1) rfl (by kernel_rfl) (fun K hK => ?_)
  go_simp
  refine (H_hcallIs.out _).mono ?_; rintro e w2 ⟨rfl, r⟩; have hf0 : Fresh w1 w2 := r.of_drew; have m0 := cell_fresh k0 hf0; have m1 := cell_fresh k1 hf0; have m2 := cell_fresh k2 hf0; have m3 := cell_fresh k3 hf0; have m4 := cell_fresh k4 hf0; have m5 := cell_fresh k5 hf0; have H_hf0 := Lib.hid hf0; clear r hf0
  go_wp2_with (fail)
  have hHeld1 : ((fun (w' : World) => w'.cell? ⟨g, 0, none⟩ = some (.bool false) ∧ w'.cell? ⟨g, 1, none⟩ = some (.int .u64 c) ∧ w'.cell? ⟨g, 2, none⟩ = some (.int .i64 s) ∧ w'.cell? ⟨g + 1, 0, none⟩ = some (.bool nb) ∧ w'.cell? ⟨g + 1, 1, none⟩ = some (.slice a2 l2.length cc2) ∧ w'.cell? ⟨g + 1, 2, none⟩ = some (.slice a3 dl.length cc3))) _ := ⟨m0, m1, m2, m3, m4, m5⟩
  refine hK.out _ _ (fun _ => hHeld1) ?_
  clear hK K
  try simp only [Act.put, yA, yB, yC, yD, yE, yF]
  refine wpAnyE_takeP (i := 2) (v := .bool true) rfl (by kernel_rfl) (fun _ _ _ h => h) ⟨by rfl, ?y2_1⟩ (by assumption) ?r2_1
  case y2_1 => (intro w; go_simp)
  try simp only [Act.put, yA, yB, yC, yD, yE, yF]
  refine wpAnyE_takeP (i := 3) (v := ?v3_1) rfl (by kernel_rfl) (fun _ _ _ h => h) ⟨by rfl, ?y3_1⟩ (by assumption) ?r3_1
  case y3_1 => (intro w; go_simp; try with_reducible rfl)
  try simp only [Act.put, yA, yB, yC, yD, yE, yF]
  refine wpAnyE_takeL (i := 4) (c := 5) (v := ?v4_1) rfl (by kernel_rfl) (fun _ _ _ h => h) ⟨by rfl, ?y4_1⟩ (by assumption) ?r4_1
  case y4_1 => (intro w hSw; go_split_ands; go_simp; try with_reducible rfl)
  try simp only [Act.put, yA, yB, yC, yD, yE, yF]
  refine wpAnyE_takeP (i := 5) (v := .bool false) rfl (by kernel_rfl) (fun _ _ _ h => h) ⟨by rfl, ?y5_1⟩ (by assumption) ?r5_1
  case y5_1 => (intro w; go_simp)
  try simp only [Act.put, yA, yB, yC, yD, yE, yF]
  refine wpAnyE_takeU (i := 6) rfl (by kernel_rfl) (fun _ _ _ h => h) (by rfl) (by assumption) ?_
  try simp only [Act.put, yA, yB, yC, yD, yE, yF]
  refine wpAnyE_takeU (i := 7) rfl (by kernel_rfl) (fun _ _ _ h => h) (by rfl) (by assumption) ?_
  try simp only [Act.put, yA, yB, yC, yD, yE, yF]
  refine wpAnyE_takeU (i := 8) rfl (by kernel_rfl) (fun _ _ _ h => h) (by rfl) (by assumption) ?_
  try simp only [Act.put, yA, yB, yC, yD, yE, yF]
  refine wpAnyE_takeP (i := 9) (v := .bool false) rfl (by kernel_rfl) (fun _ _ _ h => h) ⟨by rfl, ?y9_1⟩ (by assumption) ?r9_1
  case y9_1 => (intro w; go_simp)
  try simp only [Act.put, yA, yB, yC, yD, yE, yF]
  refine wpAnyE_takeP (i := 10) (v := .bool true) rfl (by kernel_rfl) (fun _ _ _ h => h) ⟨by rfl, ?y10_1⟩ (by assumption) ?r10_1
  case y10_1 => (intro w; go_simp)
  try simp only [Act.put, yA, yB, yC, yD, yE, yF]
  refine wpAnyE_takeP (i := 11) (v := .bool true) rfl (by kernel_rfl) (fun _ _ _ h => h) ⟨by rfl, ?y11_1⟩ (by assumption) ?r11_1
  case y11_1 => (intro w; go_simp)
  try simp only [Act.put, yA, yB, yC, yD, yE, yF]
  refine wpAnyE_takeP (i := 12) (v := .bool true) rfl (by kernel_rfl) (fun _ _ _ h => h) ⟨by rfl, ?y12_1⟩ (by assumption) ?r12_1
  case y12_1 => (intro w; go_simp)
  try simp only [Act.put, yA, yB, yC, yD, yE, yF]
  refine wpAnyE_takeL (i := 13) (c := 14) (v := ?v13_1) rfl (by kernel_rfl) (fun _ _ _ h => h) ⟨by rfl, ?y13_1⟩ (by assumption) ?r13_1
  case y13_1 => (intro w hSw; go_split_ands; go_simp; try with_reducible rfl)
  try simp only [Act.put, yA, yB, yC, yD, yE, yF]
  refine wpAnyE_takeL (i := 15) (c := 16) (v := ?v15_1) rfl (by kernel_rfl) (fun _ _ _ h => h) ⟨by rfl, ?y15_1⟩ (by assumption) ?r15_1
  case y15_1 => (intro w hSw; go_split_ands; go_simp; try with_reducible rfl)
  try simp only [Act.put, yA, yB, yC, yD, yE, yF]
  refine wpAnyE_one (i := 14) rfl (by kernel_rfl) (fun K hK => ?_)
  go_simp
  refine (FixNum_any false c s _ hs hc).mono ?_; rintro e w3 ⟨x, rfl, hx3, r⟩; have n0 := cell_fresh m0 r; have n1 := cell_fresh m1 r; have n2 := cell_fresh m2 r; have n3 := cell_fresh m3 r; have n4 := cell_fresh m4 r; have n5 := cell_fresh m5 r; have H_hx3 := Lib.hid hx3; have H_r := Lib.hid r; clear hx3 r
  go_wp2_with (fail)
  have hHeld2 : ((fun (w' : World) => w'.cell? ⟨g, 0, none⟩ = some (.bool false) ∧ w'.cell? ⟨g, 1, none⟩ = some (.int .u64 c) ∧ w'.cell? ⟨g, 2, none⟩ = some (.int .i64 s) ∧ w'.cell? ⟨g + 1, 0, none⟩ = some (.bool nb) ∧ w'.cell? ⟨g + 1, 1, none⟩ = some (.slice a2 l2.length cc2) ∧ w'.cell? ⟨g + 1, 2, none⟩ = some (.slice a3 dl.length cc3))) _ := ⟨n0, n1, n2, n3, n4, n5⟩
  refine hK.out _ _ (fun _ => hHeld2) ?_
  clear hK K
  try simp only [Act.put, yA, yB, yC, yD, yE, yF]
  refine wpAnyE_one (i := 16) rfl (by kernel_rfl) (fun K hK => ?_)
  go_simp
  refine (FracCmp_any _ _ _ _ _ _ _ H_hx3.out (((H_hx.out.fresh H_hf.out).fresh H_hf0.out).fresh H_r.out) (zfix_spow hc) H_hzx.out (ten_spow hs) H_hdx.out).mono ?_; rintro e w4 ⟨rfl, r⟩; have o0 := cell_fresh n0 r; have o1 := cell_fresh n1 r; have o2 := cell_fresh n2 r; have o3 := cell_fresh n3 r; have o4 := cell_fresh n4 r; have o5 := cell_fresh n5 r; have H_r2 := Lib.hid r; clear r; rw [H_hq.out]
  go_wp2_with (fail)
  have hHeld3 : ((fun (w' : World) => w'.cell? ⟨g, 0, none⟩ = some (.bool false) ∧ w'.cell? ⟨g, 1, none⟩ = some (.int .u64 c) ∧ w'.cell? ⟨g, 2, none⟩ = some (.int .i64 s) ∧ w'.cell? ⟨g + 1, 0, none⟩ = some (.bool nb) ∧ w'.cell? ⟨g + 1, 1, none⟩ = some (.slice a2 l2.length cc2) ∧ w'.cell? ⟨g + 1, 2, none⟩ = some (.slice a3 dl.length cc3))) _ := ⟨o0, o1, o2, o3, o4, o5⟩
  refine hK.out _ _ (fun _ => hHeld3) ?_
  clear hK K
  try simp only [Act.put, yA, yB, yC, yD, yE, yF]
  refine wpAnyE_takeP (i := 17) (v := .bool true) rfl (by kernel_rfl) (fun _ _ _ h => h) ⟨by rfl, ?y17_1⟩ (by assumption) ?r17_1
  case y17_1 => (intro w; go_simp)
  try simp only [Act.put, yA, yB, yC, yD, yE, yF]
  refine wpAnyE_takeP (i := 18) (v := .bool true) rfl (by kernel_rfl) (fun _ _ _ h => h) ⟨by rfl, ?y18_1⟩ (by assumption) ?r18_1
  case y18_1 => (intro w; go_simp)
  try simp only [Act.put, yA, yB, yC, yD, yE, yF]
  refine wpAnyE_one (i := 19) rfl (by kernel_rfl) (fun K hK => ?_)
  go_simp
  refine hK.out _ _ (fun h => Bool.noConfusion (show true = false from h)) ?_
  clear hK K
  try simp only [Act.put, yA, yB, yC, yD, yE, yF]
  refine wpAnyE_done (by kernel_rfl) ?_ _
  go_wp2
  go_ret
  exact ⟨rfl, fresh_trans (fresh_trans (fresh_trans H_hf.out H_hf0.out) H_r.out) H_r2.out⟩

set_option maxRecDepth 20000 in
set_option maxHeartbeats 2000000 in
theorem FixHasG_t (c s : Nat) (xw : Value) (w : World) (hs : s ≤ 19) (hc : c ≤ 9999999999999999999) (hpos : 0 < c) (zx : Int) (dx : Nat) (hzx : zx.natAbs < spow 1000) (hdx : dx < spow 1000) (hq : cmpZ (zfix true c * (dx : Int)) (zx * ((10 ^ s : Nat) : Int)) = 0) (hx : SFr w xw zx dx) :
    Calls Tryz.prog 20 #[fx true c s, xw] w (VRet w (.bool true)) := by
  obtain ⟨nb, v2, l2, dv, dl, rfl, s1, s2, s3, s4, s5, s6, s7⟩ := hx
  obtain ⟨a2, cc2, rfl⟩ := s1.form
  obtain ⟨a3, cc3, rfl⟩ := s5.form
  have hx : SFr w (.agg #[.bool nb, .slice a2 l2.length cc2, .slice a3 dl.length cc3]) zx dx := ⟨nb, _, l2, _, dl, rfl, s1, s2, s3, s4, s5, s6, s7⟩
  have his : fixIs c s = true := by unfold fixIs; simp; omega
  have tc : ((c : Int) == 0) = false := by rw [beq_eq_false_iff_ne]; omega
  have H_hpos := Lib.hid hpos
  clear hpos
  obtain ⟨g, hg⟩ : ∃ g, g = w.heap.size := ⟨_, rfl⟩
  have bx := boxes2 w #[.bool true, .int .u64 c, .int .i64 s] #[.bool nb, .slice a2 l2.length cc2, .slice a3 dl.length cc3] 24 39 g hg
  clear s1 s2 s3 s4 s5 s6 s7
  have H_bx := Lib.hid bx; clear bx
  have H_hx := Lib.hid hx; clear hx
  have H_his := Lib.hid his; clear his
  have H_hzx := Lib.hid hzx; clear hzx
  have H_hdx := Lib.hid hdx; clear hdx
  have H_hq := Lib.hid hq; clear hq
  go_enter Tryz.func20, Tryz.ntmps20
  go_wp2_with (fail)
  generalize hw1 : (w.alloc _).alloc _ = w1
  rw [← hg]
  obtain ⟨b1, b2, hf⟩ := H_bx.out w1 hw1
  have k0 := row_cell b1 0
  have k1 := row_cell b1 1
  have k2 := row_cell b1 2
  have k3 := row_cell b2 0
  have k4 := row_cell b2 1
  have k5 := row_cell b2 2
  simp at k0 k1 k2 k3 k4 k5
  have H_b1 := Lib.hid b1; clear b1
  have H_b2 := Lib.hid b2; clear b2
  have H_hf := Lib.hid hf; clear hf
  have H_hw1 := Lib.hid hw1; clear hw1
  have H_hg := Lib.hid hg; clear hg
  have hcallIs : ∀ W, Calls Tryz.prog 16 #[fx true c s] W (VRet W (.bool true)) := fun W => by have := FixIs_any true c (s : Int) W; rw [H_his.out] at this; exact this
  have H_hcallIs := Lib.hid hcallIs
  clear hcallIs
  go_region_held3 (fun (w' : World) => w'.cell? ⟨g, 0, none⟩ = some (.bool true) ∧ w'.cell? ⟨g, 1, none⟩ = some (.int .u64 c) ∧ w'.cell? ⟨g, 2, none⟩ = some (.int .i64 s) ∧ w'.cell? ⟨g + 1, 0, none⟩ = some (.bool nb) ∧ w'.cell? ⟨g + 1, 1, none⟩ = some (.slice a2 l2.length cc2) ∧ w'.cell? ⟨g + 1, 2, none⟩ = some (.slice a3 dl.length cc3)) (first | exact ⟨k0, k1, k2, k3, k4, k5⟩ | exact ⟨m0, m1, m2, m3, m4, m5⟩ | exact ⟨n0, n1, n2, n3, n4, n5⟩ | exact ⟨o0, o1, o2, o3, o4, o5⟩) (first
    | (go_at_call 16; (with_reducible refine (H_hcallIs.out _).mono ?_); rintro e w2 ⟨rfl, r⟩; have hf0 : Fresh w1 w2 := (by first | exact r | exact r.of_drew | exact r.of_drewN); have m0 := cell_fresh k0 hf0; have m1 := cell_fresh k1 hf0; have m2 := cell_fresh k2 hf0; have m3 := cell_fresh k3 hf0; have m4 := cell_fresh k4 hf0; have m5 := cell_fresh k5 hf0; have H_hf0 := Lib.hid hf0; clear r hf0)
    | (go_at_call 19; (with_reducible refine (FixNum_any true c s _ hs hc).mono ?_); rintro e w3 ⟨x, rfl, hx3, r⟩; have n0 := cell_fresh m0 r; have n1 := cell_fresh m1 r; have n2 := cell_fresh m2 r; have n3 := cell_fresh m3 r; have n4 := cell_fresh m4 r; have n5 := cell_fresh m5 r; have H_hx3 := Lib.hid hx3; have H_r := Lib.hid r; clear hx3 r)
    | (go_at_call 47; (with_reducible refine (FracCmp_any _ _ _ _ _ _ _ H_hx3.out (((H_hx.out.fresh H_hf.out).fresh H_hf0.out).fresh H_r.out) (zfix_spow hc) H_hzx.out (ten_spow hs) H_hdx.out).mono ?_); rintro e w4 ⟨rfl, r⟩; have o0 := cell_fresh n0 r; have o1 := cell_fresh n1 r; have o2 := cell_fresh n2 r; have o3 := cell_fresh n3 r; have o4 := cell_fresh n4 r; have o5 := cell_fresh n5 r; have H_r2 := Lib.hid r; clear r; rw [H_hq.out]))
  go_wp2
  go_ret
  exact ⟨rfl, fresh_trans (fresh_trans (fresh_trans H_hf.out H_hf0.out) H_r.out) H_r2.out⟩

theorem FixHas_same (neg : Bool) (c s : Nat) (xw : Value) (w : World) (hs : s ≤ 19) (hc : c ≤ 9999999999999999999) (hcan : neg = true → 0 < c) (zx : Int) (dx : Nat) (hzx : zx.natAbs < spow 1000) (hdx : dx < spow 1000)
    (hq : cmpZ (zfix neg c * (dx : Int)) (zx * ((10 ^ s : Nat) : Int)) = 0) (hx : SFr w xw zx dx) :
    Calls Tryz.prog 20 #[fx neg c s, xw] w (VRet w (.bool true)) := by
  cases neg
  · exact FixHasG_f c s xw w hs hc zx dx hzx hdx hq hx
  · exact FixHasG_t c s xw w hs hc (hcan rfl) zx dx hzx hdx hq hx

end Go.Proofs.YtmgidnjpkbgmgabGreatDoor

/- The plain law of rounding: a quotient half to even, the greatest number of places for which there is room, and what a result of the package has to be. -/
namespace Go.Proofs.YtmgidnjpkbgmgabGreatDoor
open Go.RowKit

/-- a quotient, rounded half to even -/
def rhe (a b : Nat) : Nat := a / b + (if b < 2 * (a % b) ∨ (2 * (a % b) = b ∧ a / b % 2 = 1) then 1 else 0)

theorem rhe_mul {a b k : Nat} (hk : 0 < k) : rhe (a * k) (b * k) = rhe a b := by
  unfold rhe
  rw [Nat.mul_div_mul_right _ _ hk, Nat.mul_mod_mul_right]
  have h1 : (b * k < 2 * (a % b * k)) ↔ b < 2 * (a % b) := by
    rw [← Nat.mul_assoc]; exact Nat.mul_lt_mul_right hk
  have h2 : (2 * (a % b * k) = b * k) ↔ 2 * (a % b) = b := by
    rw [← Nat.mul_assoc]; exact Nat.mul_left_inj (by omega)
  simp only [h1, h2]

theorem rhe_exact {a b c : Nat} (hb : 0 < b) (h : a = c * b) : rhe a b = c := by
  subst h
  unfold rhe
  rw [Nat.mul_div_cancel _ hb, Nat.mul_mod_left, if_neg (by omega)]
  rfl

theorem rhe_lt {a b t : Nat} (hb : 0 < b) : rhe a b < 2 * t + 2 ↔ 2 * a < (4 * t + 3) * b := by
  unfold rhe
  have e := Nat.div_add_mod a b
  have hr := Nat.mod_lt a hb
  generalize a / b = q at *
  generalize a % b = r at *
  have e1 : (4 * t + 3) * b = 4 * (t * b) + 3 * b := by rw [Nat.add_mul, Nat.mul_assoc]
  rw [e1]
  rcases Nat.lt_trichotomy q (2 * t + 1) with h | h | h
  · have h1 : b * q ≤ b * (2 * t) := Nat.mul_le_mul_left _ (by omega)
    have h2 : b * (2 * t) = 2 * (t * b) := by rw [Nat.mul_left_comm, Nat.mul_comm b t]
    constructor
    · intro _; omega
    · intro _; split <;> omega
  · subst h
    have h2 : b * (2 * t + 1) = 2 * (t * b) + b := by rw [Nat.mul_add, Nat.mul_left_comm, Nat.mul_comm b t, Nat.mul_one]
    rw [h2] at e
    constructor
    · intro h3
      split at h3
      · omega
      · rename_i h4
        rcases Nat.lt_or_ge (2 * r) b with h5 | h5
        · omega
        · exfalso; apply h4
          rcases Nat.lt_or_ge b (2 * r) with h6 | h6
          · exact .inl h6
          · exact .inr ⟨by omega, by omega⟩
    · intro h3
      rw [if_neg (by omega)]
      omega
  · have h1 : b * (2 * t + 2) ≤ b * q := Nat.mul_le_mul_left _ (by omega)
    have h2 : b * (2 * t + 2) = 2 * (t * b) + 2 * b := by rw [Nat.mul_add, Nat.mul_left_comm, Nat.mul_comm b t, Nat.mul_comm b 2]
    constructor
    · intro h3; split at h3 <;> omega
    · intro h3; omega

/-- there is room for N / d with n places -/
def okN (N d n : Nat) : Prop := rhe (N * 10 ^ n) d < 10000000000000000000

instance (N d n : Nat) : Decidable (okN N d n) := by unfold okN; infer_instance

theorem okN_iff {N d n : Nat} (hd : 0 < d) : okN N d n ↔ 2 * (N * 10 ^ n) < 19999999999999999999 * d := by
  have := rhe_lt (a := N * 10 ^ n) (t := 4999999999999999999) hd
  unfold okN
  simpa using this

theorem okN_anti {N d n m : Nat} (hd : 0 < d) (h : m ≤ n) (hn : okN N d n) : okN N d m := by
  rw [okN_iff hd] at hn ⊢
  have h1 : 10 ^ m ≤ 10 ^ n := Nat.pow_le_pow_right (by omega) h
  have h2 : N * 10 ^ m ≤ N * 10 ^ n := Nat.mul_le_mul_left _ h1
  omega

/-- the greatest number of places, up to 19, for which there is room -/
def Top (N d t : Nat) : Prop := t ≤ 19 ∧ okN N d t ∧ (t = 19 ∨ ¬ okN N d (t + 1))

theorem top_below (N d : Nat) (h : okN N d 0) : ∀ n, ∃ t, t ≤ n ∧ okN N d t ∧ (t = n ∨ ¬ okN N d (t + 1))
  | 0 => ⟨0, Nat.le_refl _, h, .inl rfl⟩
  | n + 1 => by
    by_cases h1 : okN N d (n + 1)
    · exact ⟨n + 1, Nat.le_refl _, h1, .inl rfl⟩
    · obtain ⟨t, ht, h2, h3⟩ := top_below N d h n
      refine ⟨t, by omega, h2, .inr ?_⟩
      rcases h3 with h3 | h3
      · rw [h3]; exact h1
      · exact h3

theorem top_exists {N d : Nat} (h : okN N d 0) : ∃ t, Top N d t := by
  obtain ⟨t, h1, h2, h3⟩ := top_below N d h 19
  exact ⟨t, h1, h2, h3⟩

/-- what a result's coefficient and scale have to be: exact, or the number rounded to as many places as there is room for -/
def Good (N d c s : Nat) : Prop := s ≤ 19 ∧ c ≤ 9999999999999999999 ∧ (c * d = N * 10 ^ s ∨ (Top N d s ∧ c = rhe (N * 10 ^ s) d))

theorem good_top {N d c s : Nat} (hd : 0 < d) (h : Good N d c s) : ∃ t, Top N d t ∧ s ≤ t ∧ c * 10 ^ t = rhe (N * 10 ^ t) d * 10 ^ s := by
  obtain ⟨hs, hc, h | ⟨h, h1⟩⟩ := h
  · have hr : rhe (N * 10 ^ s) d = c := rhe_exact hd h.symm
    have hok : okN N d s := by unfold okN; rw [hr]; omega
    obtain ⟨t, ht⟩ := top_exists (okN_anti hd (Nat.zero_le s) hok)
    have hst : s ≤ t := by
      rcases Nat.lt_or_ge t s with h2 | h2
      · rcases ht.2.2 with h3 | h3
        · omega
        · exact absurd (okN_anti hd (show t + 1 ≤ s by omega) hok) h3
      · exact h2
    refine ⟨t, ht, hst, ?_⟩
    have e : 10 ^ t = 10 ^ s * 10 ^ (t - s) := by rw [← Nat.pow_add]; congr 1; omega
    have hr2 : rhe (N * 10 ^ t) d = c * 10 ^ (t - s) := rhe_exact hd (by rw [e, ← Nat.mul_assoc, ← h, Nat.mul_assoc, Nat.mul_assoc, Nat.mul_comm d])
    rw [hr2, e, Nat.mul_assoc, Nat.mul_comm (10 ^ s)]
  · exact ⟨s, h, Nat.le_refl _, by rw [h1]⟩

theorem top_unique {N d s t : Nat} (hd : 0 < d) (h : Top N d s) (k : Top N d t) : s = t := by
  have one : ∀ {s t}, Top N d s → Top N d t → ¬ s < t := fun {s t} h k hlt => by
    rcases h.2.2 with h1 | h1
    · have := k.1; omega
    · exact h1 (okN_anti hd (show s + 1 ≤ t by omega) k.2.1)
  have h1 := one h k
  have h2 := one k h
  omega

/-- a number with the sign of another one -/
def sgnN (z : Int) (n : Nat) : Int := if z < 0 then -(n : Int) else (n : Int)

theorem sgnN_mul (z : Int) (n k : Nat) : sgnN z n * (k : Int) = sgnN z (n * k) := by
  unfold sgnN
  split <;> simp [Int.neg_mul]

theorem sgnN_abs (z : Int) (n : Nat) : (sgnN z n).natAbs = n := by unfold sgnN; split <;> simp

/-- the sum or the product as it stands, made to fit: a result of the way by numbers of 64 bits -/
theorem good_exact {N d C S ms : Nat} (h : N * 10 ^ S = C * d) (h1 : S ≤ ms) (h2 : ms ≤ 19) (hc : C * 10 ^ (ms - S) ≤ 9999999999999999999) : Good N d (C * 10 ^ (ms - S)) ms := by
  refine ⟨h2, hc, .inl ?_⟩
  have e : 10 ^ ms = 10 ^ S * 10 ^ (ms - S) := by rw [← Nat.pow_add]; congr 1; omega
  rw [e, ← Nat.mul_assoc, h, Nat.mul_assoc, Nat.mul_assoc, Nat.mul_comm d]

theorem good_same {N d C S : Nat} (h : N * 10 ^ S = C * d) (h2 : S ≤ 19) (hc : C ≤ 9999999999999999999) : Good N d C S := ⟨h2, hc, .inl h.symm⟩

/-- rounding a coefficient rounds the number -/
theorem rhe_shift {N d C S k : Nat} (h : N * 10 ^ S = C * d) (hd : 0 < d) (hk : k ≤ S) : rhe (N * 10 ^ (S - k)) d = rhe C (10 ^ k) := by
  have e : 10 ^ S = 10 ^ (S - k) * 10 ^ k := by rw [← Nat.pow_add]; congr 1; omega
  have hp : 0 < 10 ^ k := Nat.pow_pos (by omega)
  rw [← rhe_mul (a := N * 10 ^ (S - k)) (b := d) hp, ← rhe_mul (a := C) (b := 10 ^ k) hd]
  congr 1
  · rw [Nat.mul_assoc, ← e, h]
  · rw [Nat.mul_comm]

theorem good_cut {N d C S : Nat} (h : N * 10 ^ S = C * d) (hd : 0 < d) (hS : 19 ≤ S) (hc : rhe C (10 ^ (S - 19)) ≤ 9999999999999999999) : Good N d (rhe C (10 ^ (S - 19))) 19 := by
  have e := rhe_shift h hd (show S - 19 ≤ S by omega)
  rw [show S - (S - 19) = 19 by omega] at e
  refine ⟨Nat.le_refl _, hc, .inr ⟨⟨Nat.le_refl _, ?_, .inl rfl⟩, e.symm⟩⟩
  unfold okN
  rw [e]
  omega

end Go.Proofs.YtmgidnjpkbgmgabGreatDoor

/- The plain law of the way by whole numbers of any length: what newFromBint makes of a coefficient is a result as it has to be. -/
namespace Go.Proofs.YtmgidnjpkbgmgabGreatDoor
open Go.RowKit

theorem rhe_ge (a b : Nat) : a / b ≤ rhe a b := by unfold rhe; omega
theorem rhe_le (a b : Nat) : rhe a b ≤ a / b + 1 := by unfold rhe; split <;> omega

theorem rhe_bounds {a b v : Nat} (hb : 0 < b) (h : rhe a b = v) : 2 * (v * b) ≤ 2 * a + b ∧ 2 * a ≤ 2 * (v * b) + b := by
  unfold rhe at h
  have e := Nat.div_add_mod a b
  have hr := Nat.mod_lt a hb
  generalize a / b = q at *
  generalize a % b = r at *
  have e1 : b * q = q * b := Nat.mul_comm _ _
  split at h
  · rename_i hc
    subst h
    have : (q + 1) * b = q * b + b := by rw [Nat.add_mul, Nat.one_mul]
    rcases hc with hc | hc <;> omega
  · rename_i hc
    have h2 : ¬ b < 2 * r := fun h => hc (.inl h)
    subst h
    rw [Nat.add_zero]
    omega

theorem rhe_of {a b v : Nat} (hb : 0 < b) (h1 : 2 * (v * b) < 2 * a + b) (h2 : 2 * a < 2 * (v * b) + b) : rhe a b = v := by
  unfold rhe
  have e := Nat.div_add_mod a b
  have hr := Nat.mod_lt a hb
  generalize a / b = q at *
  generalize a % b = r at *
  have e1 : b * q = q * b := Nat.mul_comm _ _
  rcases Nat.lt_trichotomy q v with h | h | h
  · -- q + 1 ≤ v
    have h3 : (q + 1) * b ≤ v * b := Nat.mul_le_mul_right _ h
    have h4 : (q + 1) * b = q * b + b := by rw [Nat.add_mul, Nat.one_mul]
    have hv : v = q + 1 := by
      rcases Nat.lt_or_ge (q + 1) v with h5 | h5
      · exfalso
        have h6 : (q + 2) * b ≤ v * b := Nat.mul_le_mul_right _ h5
        have h7 : (q + 2) * b = q * b + 2 * b := by rw [Nat.add_mul]
        omega
      · omega
    subst hv
    rw [if_pos (.inl (by omega))]
  · subst h
    rw [if_neg (by omega)]
    rfl
  · exfalso
    have h3 : (v + 1) * b ≤ q * b := Nat.mul_le_mul_right _ h
    have h4 : (v + 1) * b = v * b + b := by rw [Nat.add_mul, Nat.one_mul]
    omega

theorem rhe_ten {a b m : Nat} (hb : 0 < b) (h : rhe (a * 10) b = m * 10) : rhe a b = m := by
  obtain ⟨h1, h2⟩ := rhe_bounds hb h
  have e : m * 10 * b = 10 * (m * b) := by rw [Nat.mul_comm m 10, Nat.mul_assoc]
  rw [e] at h1 h2
  exact rhe_of hb (by omega) (by omega)

/-- one round of newFromBint -/
def nbStep (C p S ms : Nat) : Option (Nat × Nat) :=
  if 19 + S < p + ms then none
  else if S < ms then some (C * 10 ^ (ms - S), ms)
  else if p ≤ S ∧ 19 < S then some (rhe C (10 ^ (S - 19)), 19)
  else if S < p ∧ 19 < p then some (rhe C (10 ^ (p - 19)), 19 + S - p)
  else some (C, S)

/-- what newFromBint makes of a coefficient with p digits and a scale -/
def nbOut (C p S ms : Nat) : Option (Nat × Nat) :=
  match nbStep C p S ms with
  | none => none
  | some (c, s) => if c < 10000000000000000000 then some (c, s) else nbStep c 20 s ms

/-- N / d at n places is at least the coefficient shifted -/
theorem shift_ge {N d C S n m : Nat} (h : N * 10 ^ S = C * d) (hd : 0 < d) (hC : 10 ^ (m + S) ≤ C * 10 ^ n) : 10 ^ m ≤ rhe (N * 10 ^ n) d := by
  refine Nat.le_trans ?_ (rhe_ge _ _)
  rw [Nat.le_div_iff_mul_le hd]
  have hp : 0 < 10 ^ S := Nat.pow_pos (by omega)
  refine Nat.le_of_mul_le_mul_right ?_ hp
  have e1 : N * 10 ^ n * 10 ^ S = C * 10 ^ n * d := by rw [Nat.mul_right_comm, h, Nat.mul_right_comm]
  have e2 : 10 ^ m * d * 10 ^ S = 10 ^ (m + S) * d := by rw [Nat.pow_add, Nat.mul_right_comm]
  rw [e1, e2]
  exact Nat.mul_le_mul_right _ hC

/-- the round's result: exact, or rounded where there is no more room -/
theorem nbStep_some {N d C p S ms c s : Nat} (h : N * 10 ^ S = C * d) (hd : 0 < d) (hp : IsPrec C p) (hms : ms ≤ 19) (hn : nbStep C p S ms = some (c, s)) :
    ms ≤ s ∧ s ≤ 19 ∧ c ≤ 10000000000000000000 ∧ (c < 10000000000000000000 → Good N d c s) ∧ (c = 10000000000000000000 → rhe (N * 10 ^ s) d = 10000000000000000000) := by
  unfold nbStep at hn
  split at hn
  · cases hn
  · rename_i h0
    split at hn
    · rename_i h1
      cases hn
      have hlt : C * 10 ^ (ms - S) < 10 ^ 19 := by
        have h2 : C * 10 ^ (ms - S) < 10 ^ p * 10 ^ (ms - S) := Nat.mul_lt_mul_of_pos_right hp.1 (Nat.pow_pos (by omega))
        rw [← Nat.pow_add] at h2
        exact Nat.lt_of_lt_of_le h2 (Nat.pow_le_pow_right (by omega) (by omega))
      exact ⟨Nat.le_refl _, hms, by omega, fun _ => good_exact h (by omega) hms (by omega), fun e => by omega⟩
    · rename_i h1
      split at hn
      · rename_i h2
        cases hn
        have e := rhe_shift h hd (show S - 19 ≤ S by omega)
        rw [show S - (S - 19) = 19 by omega] at e
        have hC : C < 10 ^ S := hp.lt_iff.2 h2.1
        have hle : rhe C (10 ^ (S - 19)) ≤ 10 ^ 19 := by
          refine Nat.le_trans (rhe_le _ _) ?_
          have : C / 10 ^ (S - 19) < 10 ^ 19 := by
            rw [Nat.div_lt_iff_lt_mul (Nat.pow_pos (by omega)), ← Nat.pow_add, show 19 + (S - 19) = S by omega]
            exact hC
          omega
        exact ⟨hms, Nat.le_refl _, by omega, fun hc => good_cut h hd (by omega) (by omega), fun hc => by rw [e, hc]⟩
      · rename_i h2
        split at hn
        · rename_i h3
          cases hn
          have e := rhe_shift h hd (show p - 19 ≤ S by omega)
          rw [show S - (p - 19) = 19 + S - p by omega] at e
          have hle : rhe C (10 ^ (p - 19)) ≤ 10 ^ 19 := by
            refine Nat.le_trans (rhe_le _ _) ?_
            have : C / 10 ^ (p - 19) < 10 ^ 19 := by
              rw [Nat.div_lt_iff_lt_mul (Nat.pow_pos (by omega)), ← Nat.pow_add, show 19 + (p - 19) = p by omega]
              exact hp.1
            omega
          refine ⟨by omega, by omega, by omega, fun hc => ⟨by omega, by omega, .inr ⟨⟨by omega, ?_, .inr ?_⟩, e.symm⟩⟩, fun hc => by rw [e, hc]⟩
          · unfold okN
            rw [e]
            exact hc
          · have h1 := hp.2 (by omega)
            have h2 : 10 ^ 19 ≤ rhe (N * 10 ^ (19 + S - p + 1)) d := shift_ge h hd (by
              refine Nat.le_trans ?_ (Nat.mul_le_mul_right _ h1)
              rw [← Nat.pow_add]
              exact Nat.pow_le_pow_right (by omega) (by omega))
            unfold okN
            omega
        · rename_i h3
          cases hn
          have hc : C < 10 ^ 19 := hp.lt_iff.2 (by omega)
          exact ⟨by omega, by omega, by omega, fun _ => good_same h (by omega) (by omega), fun e => by omega⟩

end Go.Proofs.YtmgidnjpkbgmgabGreatDoor

/- The contracts of govalues' decimals: Sign, IsOne, WithinOne, Prec. -/
namespace Go.Proofs.YtmgidnjpkbgmgabGreatDoor
open Go.RowKit

end Go.Proofs.YtmgidnjpkbgmgabGreatDoor

/- How two decimals compare: the plain law. -/
namespace Go.Proofs.YtmgidnjpkbgmgabGreatDoor
open Go.RowKit

end Go.Proofs.YtmgidnjpkbgmgabGreatDoor

/- The contracts of the thin package: FixMinScale, FixIsInt. -/
namespace Go.Proofs.YtmgidnjpkbgmgabGreatDoor
open Go.RowKit

end Go.Proofs.YtmgidnjpkbgmgabGreatDoor
