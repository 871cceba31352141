/- The contracts of govalues on two decimals: CmpAbs, Equal, Less. -/
import Derived.Test.YtibaeafmgncjdaaGreatDoorK10
import Derived.Test.YtibaeafmgncjdaaGreatDoorK23
namespace Go.Proofs.YtibaeafmgncjdaaGreatDoor
open Go.RowKit

set_option maxRecDepth 20000 in
set_option maxHeartbeats 2000000 in
theorem CmpAbs_any (n1 n2 : Bool) (c1 s1 c2 s2 : Nat) (z : Int) (w : World) (hs1 : s1 ≤ 19) (hs2 : s2 ≤ 19)
    (hcmp : ∀ W, Fresh w W → Calls Tryz.prog 46 #[gd false s1 c1, gd false s2 c2] W (VRet W (.int .i64 z))) :
    Calls Tryz.prog 48 #[gd n1 s1 c1, gd n2 s2 c2] w (VRet w (.int .i64 z)) := by
  obtain ⟨g, hg⟩ : ∃ g, g = w.heap.size := ⟨_, rfl⟩
  have bx := boxes2 w #[.bool n1, .int .i8 s1, .int .u64 c1] #[.bool n2, .int .i8 s2, .int .u64 c2] 62 62 g hg
  have H_bx := Lib.hid bx; clear bx
  have H_hcmp := Lib.hid hcmp; clear hcmp
  go_enter Tryz.func48, Tryz.ntmps48
  go_wp2_with (fail)
  generalize hw1 : (w.alloc _).alloc _ = w1
  rw [← hg]
  obtain ⟨b1, b2, hf⟩ := H_bx.out w1 hw1
  have H_b1 := Lib.hid b1; clear b1
  have H_b2 := Lib.hid b2; clear b2
  have H_hf := Lib.hid hf; clear hf
  have H_hw1 := Lib.hid hw1; clear hw1
  have H_hg := Lib.hid hg; clear hg
  refine wp_region_slots 4 [5, 6, 7, 8] (fun l us w' => ∃ u0 u1 u2 u3, us = [u0, u1, u2, u3] ∧ Fresh w1 w' ∧ (l.getD 0 false = true → u0 = gd n1 s1 c1) ∧ (l.getD 1 false = true → u1 = gd false s1 c1) ∧ (l.getD 2 false = true → u2 = gd n2 s2 c2) ∧ (l.getD 3 false = true → u3 = gd false s2 c2)) (by kernel_rfl) (by kernel_rfl) [undef, undef, undef, undef] rfl ⟨_, _, _, _, rfl, (Keep.refl _ _).drew, by simp, by simp, by simp, by simp⟩ ?step ?fin
  case step =>
    rintro l us w' i ⟨u0, u1, u2, u3, rfl, hf', h0, h1, h2, h3⟩ hi hr K hK
    obtain rfl | rfl | rfl | rfl : i = 0 ∨ i = 1 ∨ i = 2 ∨ i = 3 := by omega
    · have d1 := row_fresh H_b1.out hf'
      have k0 := row_cell d1 0
      have k1 := row_cell d1 1
      have k2 := row_cell d1 2
      simp at k0 k1 k2
      have hK0 := hK [gd n1 s1 c1, u1, u2, u3] w' ⟨_, _, _, _, rfl, hf', fun _ => rfl, fun h => h1 (was_up h (by decide)), fun h => h2 (was_up h (by decide)), fun h => h3 (was_up h (by decide))⟩
      have H_hK0 := Lib.hid hK0; clear hK0
      clear hK hf' h0 h1 h2 h3 hr d1
      refine wpOp_step rfl (fun K' hK' => ?_)
      have H_hK' := Lib.hid hK'; clear hK'
      try simp only [putAll, Act.put, List.getElem_toArray, List.getElem_cons_zero, List.setIfInBounds_toArray, List.set_cons_zero, List.set_cons_succ]
      go_simp
      exact H_hK'.out _ _ H_hK0.out
    · have e0 := h0 (ready_dep hr (by kernel_rfl))
      subst e0
      have hK0 := fun w2 (h : Fresh w' w2) => hK [gd n1 s1 c1, gd false s1 c1, u2, u3] w2 ⟨_, _, _, _, rfl, fresh_trans hf' h, fun _ => rfl, fun _ => rfl, fun h => h2 (was_up h (by decide)), fun h => h3 (was_up h (by decide))⟩
      have H_hK0 := Lib.hid hK0; clear hK0
      clear hK hf' h0 h1 h2 h3 hr
      refine wpOp_step rfl (fun K' hK' => ?_)
      have H_hK' := Lib.hid hK'; clear hK'
      try simp only [putAll, Act.put, List.getElem_toArray, List.getElem_cons_zero, List.getElem_cons_succ, List.setIfInBounds_toArray, List.set_cons_zero, List.set_cons_succ]
      go_simp
      refine (Abs_any n1 s1 c1 _ hs1).mono ?_
      rintro e w2 ⟨rfl, f2⟩
      go_wp2_with (fail)
      exact H_hK'.out _ _ (H_hK0.out _ f2)
    · have d1 := row_fresh H_b2.out hf'
      have k0 := row_cell d1 0
      have k1 := row_cell d1 1
      have k2 := row_cell d1 2
      simp at k0 k1 k2
      have hK0 := hK [u0, u1, gd n2 s2 c2, u3] w' ⟨_, _, _, _, rfl, hf', fun h => h0 (was_up h (by decide)), fun h => h1 (was_up h (by decide)), fun _ => rfl, fun h => h3 (was_up h (by decide))⟩
      have H_hK0 := Lib.hid hK0; clear hK0
      clear hK hf' h0 h1 h2 h3 hr d1
      refine wpOp_step rfl (fun K' hK' => ?_)
      have H_hK' := Lib.hid hK'; clear hK'
      try simp only [putAll, Act.put, List.getElem_toArray, List.getElem_cons_zero, List.getElem_cons_succ, List.setIfInBounds_toArray, List.set_cons_zero, List.set_cons_succ]
      go_simp
      exact H_hK'.out _ _ H_hK0.out
    · have e0 := h2 (ready_dep hr (by kernel_rfl))
      subst e0
      have hK0 := fun w2 (h : Fresh w' w2) => hK [u0, u1, gd n2 s2 c2, gd false s2 c2] w2 ⟨_, _, _, _, rfl, fresh_trans hf' h, fun h => h0 (was_up h (by decide)), fun h => h1 (was_up h (by decide)), fun _ => rfl, fun _ => rfl⟩
      have H_hK0 := Lib.hid hK0; clear hK0
      clear hK hf' h0 h1 h2 h3 hr
      refine wpOp_step rfl (fun K' hK' => ?_)
      have H_hK' := Lib.hid hK'; clear hK'
      try simp only [putAll, Act.put, List.getElem_toArray, List.getElem_cons_zero, List.getElem_cons_succ, List.setIfInBounds_toArray, List.set_cons_zero, List.set_cons_succ]
      go_simp
      refine (Abs_any n2 s2 c2 _ hs2).mono ?_
      rintro e w2 ⟨rfl, f2⟩
      go_wp2_with (fail)
      exact H_hK'.out _ _ (H_hK0.out _ f2)
  case fin =>
    rintro us w' ⟨u0, u1, u2, u3, rfl, hf', h0, h1, h2, h3⟩
    have e1 := h1 rfl
    have e3 := h3 rfl
    subst e1 e3
    have d1 := row_fresh H_b1.out hf'
    have d2 := row_fresh H_b2.out hf'
    have k0 := row_cell d1 0
    have k1 := row_cell d1 1
    have k2 := row_cell d1 2
    simp at k0 k1 k2
    have k3 := row_cell d2 0
    have k4 := row_cell d2 1
    have k5 := row_cell d2 2
    simp at k3 k4 k5
    have q0 : w'.frozen? ⟨g, 0, none⟩ = false := frozen_of_row _ _ _ _ _ d1
    have q1 : w'.frozen? ⟨g, 1, none⟩ = false := frozen_of_row _ _ _ _ _ d1
    have q2 : w'.frozen? ⟨g, 2, none⟩ = false := frozen_of_row _ _ _ _ _ d1
    have q3 : w'.frozen? ⟨g + 1, 0, none⟩ = false := frozen_of_row _ _ _ _ _ d2
    have q4 : w'.frozen? ⟨g + 1, 1, none⟩ = false := frozen_of_row _ _ _ _ _ d2
    have q5 : w'.frozen? ⟨g + 1, 2, none⟩ = false := frozen_of_row _ _ _ _ _ d2
    have r1 := row3_ne (x := .bool (false && decide (0 < c2))) (y := .int .i8 s2) (z := .int .u64 c2) (show g + 1 ≠ g by omega) (row3 (x := .bool (false && decide (0 < c1))) (y := .int .i8 s1) (z := .int .u64 c1) d1)
    have r2 := row3 (x := .bool (false && decide (0 < c2))) (y := .int .i8 s2) (z := .int .u64 c2) (row3_ne (x := .bool (false && decide (0 < c1))) (y := .int .i8 s1) (z := .int .u64 c1) (show g ≠ g + 1 by omega) d2)
    simp only [Bool.false_and] at r1 r2
    have f9 : Fresh w ((((((w'.setCell ⟨g, 0, none⟩ (.bool false)).setCell ⟨g, 1, none⟩ (.int .i8 s1)).setCell ⟨g, 2, none⟩ (.int .u64 c1)).setCell ⟨g + 1, 0, none⟩ (.bool false)).setCell ⟨g + 1, 1, none⟩ (.int .i8 s2)).setCell ⟨g + 1, 2, none⟩ (.int .u64 c2)) :=
      ((fresh_trans H_hf.out hf').set3 (g := g) (by have := H_hg.out; omega)).set3 (by have := H_hg.out; omega)
    have H_d1 := Lib.hid d1; clear d1
    have H_d2 := Lib.hid d2; clear d2
    have H_hf' := Lib.hid hf'; clear hf'
    have H_r1 := Lib.hid r1; clear r1
    have H_r2 := Lib.hid r2; clear r2
    have H_f9 := Lib.hid f9; clear f9
    clear h0 h1 h2 h3
    refine wpAny_next (fuel := 1) (i := 4) rfl (by kernel_rfl) (fun K hK => ?_)
    try simp only [putAll, Act.put, List.getElem_toArray, List.getElem_cons_zero, List.getElem_cons_succ, List.setIfInBounds_toArray, List.set_cons_zero, List.set_cons_succ]
    go_simp
    refine hK.out _ _ ?_
    clear hK K
    refine wpAny_next (fuel := 0) (i := 5) rfl (by kernel_rfl) (fun K hK => ?_)
    go_simp
    refine hK.out _ _ ?_
    clear hK K
    refine wpAny_end (by kernel_rfl) ?_ _
    clear k0 k1 k2 k3 k4 k5 q0 q1 q2 q3 q4 q5
    generalize hw4 : World.setCell _ _ _ = w4
    have r1 := H_r1.out
    have r2 := H_r2.out
    have f9 := H_f9.out
    rw [hw4] at r1 r2 f9
    have k0 := row_cell r1 0
    have k1 := row_cell r1 1
    have k2 := row_cell r1 2
    simp at k0 k1 k2
    have k3 := row_cell r2 0
    have k4 := row_cell r2 1
    have k5 := row_cell r2 2
    simp at k3 k4 k5
    clear H_r1 H_r2 H_f9 r1 r2
    have H_hw4 := Lib.hid hw4; clear hw4
    have H_f9 := Lib.hid f9; clear f9
    try simp only [putAll, Act.put, List.getElem_toArray, List.getElem_cons_zero, List.getElem_cons_succ, List.setIfInBounds_toArray, List.set_cons_zero, List.set_cons_succ]
    go_wp2_with (fail)
    refine (H_hcmp.out _ H_f9.out).mono ?_
    rintro e w5 ⟨rfl, f5⟩
    have H_f5 := Lib.hid f5; clear f5
    go_wp2_with (fail)
    go_ret
    exact ⟨rfl, fresh_trans H_f9.out H_f5.out⟩

set_option maxRecDepth 20000 in
theorem Equal_any (n1 n2 : Bool) (c1 s1 c2 s2 : Nat) (z : Int) (w : World)
    (hcmp : ∀ W, Fresh w W → Calls Tryz.prog 46 #[gd n1 s1 c1, gd n2 s2 c2] W (VRet W (.int .i64 z))) :
    Calls Tryz.prog 50 #[gd n1 s1 c1, gd n2 s2 c2] w (VRet w (.bool (z == 0))) := by
  obtain ⟨g, hg⟩ : ∃ g, g = w.heap.size := ⟨_, rfl⟩
  have bx := boxes2 w #[.bool n1, .int .i8 s1, .int .u64 c1] #[.bool n2, .int .i8 s2, .int .u64 c2] 62 62 g hg
  have H_bx := Lib.hid bx; clear bx
  have H_hcmp := Lib.hid hcmp; clear hcmp
  go_enter Tryz.func50, Tryz.ntmps50
  go_wp2_with (fail)
  generalize hw1 : (w.alloc _).alloc _ = w1
  obtain ⟨b1, b2, hf⟩ := H_bx.out w1 hw1
  have H_b1 := Lib.hid b1; clear b1
  have H_b2 := Lib.hid b2; clear b2
  have H_hf := Lib.hid hf; clear hf
  have H_hw1 := Lib.hid hw1; clear hw1
  have H_hg := Lib.hid hg; clear hg
  refine (H_hcmp.out _ H_hf.out).mono ?_
  rintro e w5 ⟨rfl, f5⟩
  have H_f5 := Lib.hid f5; clear f5
  go_wp2_with (fail)
  go_ret
  exact ⟨rfl, fresh_trans H_hf.out H_f5.out⟩

set_option maxRecDepth 20000 in
theorem Less_any (n1 n2 : Bool) (c1 s1 c2 s2 : Nat) (z : Int) (w : World)
    (hcmp : ∀ W, Fresh w W → Calls Tryz.prog 46 #[gd n1 s1 c1, gd n2 s2 c2] W (VRet W (.int .i64 z))) :
    Calls Tryz.prog 52 #[gd n1 s1 c1, gd n2 s2 c2] w (VRet w (.bool (decide (z < 0)))) := by
  obtain ⟨g, hg⟩ : ∃ g, g = w.heap.size := ⟨_, rfl⟩
  have bx := boxes2 w #[.bool n1, .int .i8 s1, .int .u64 c1] #[.bool n2, .int .i8 s2, .int .u64 c2] 62 62 g hg
  have H_bx := Lib.hid bx; clear bx
  have H_hcmp := Lib.hid hcmp; clear hcmp
  go_enter Tryz.func52, Tryz.ntmps52
  go_wp2_with (fail)
  generalize hw1 : (w.alloc _).alloc _ = w1
  obtain ⟨b1, b2, hf⟩ := H_bx.out w1 hw1
  have H_b1 := Lib.hid b1; clear b1
  have H_b2 := Lib.hid b2; clear b2
  have H_hf := Lib.hid hf; clear hf
  have H_hw1 := Lib.hid hw1; clear hw1
  have H_hg := Lib.hid hg; clear hg
  refine (H_hcmp.out _ H_hf.out).mono ?_
  rintro e w5 ⟨rfl, f5⟩
  have H_f5 := Lib.hid f5; clear f5
  go_wp2_with (fail)
  go_ret
  exact ⟨rfl, fresh_trans H_hf.out H_f5.out⟩

set_option maxRecDepth 20000 in
set_option maxHeartbeats 2000000 in
theorem FracAbs_any (x : Value) (z : Int) (d : Nat) (w : World) (h : SFr w x z d) :
    Calls Tryz.prog 20 #[x] w (FRet w (z.natAbs : Int) d) := by
  obtain ⟨neg, v, l, dv, dl, rfl, h1, h2, h3, h4, h5, h6, h7⟩ := h
  obtain ⟨a, c, rfl⟩ := h1.form
  obtain ⟨da, dc, rfl⟩ := h5.form
  obtain ⟨g, hg⟩ : ∃ g, g = w.heap.size := ⟨_, rfl⟩
  have bx := boxes2 w #[.bool neg, .slice a l.length c, .slice da dl.length dc] #[.bool false, .slice a l.length c, .slice da dl.length dc] 31 31 g hg
  obtain ⟨m, hm⟩ : ∃ m, m = l.length := ⟨_, rfl⟩
  obtain ⟨k, hk⟩ : ∃ k, k = dl.length := ⟨_, rfl⟩
  rw [← hm] at bx h1 ⊢
  rw [← hk] at bx h5 ⊢
  have H_bx := Lib.hid bx; clear bx
  have H_h1 := Lib.hid h1; clear h1
  have H_h2 := Lib.hid h2; clear h2
  have H_h3 := Lib.hid h3; clear h3
  have H_h4 := Lib.hid h4; clear h4
  have H_h5 := Lib.hid h5; clear h5
  have H_h6 := Lib.hid h6; clear h6
  have H_h7 := Lib.hid h7; clear h7
  have H_hm := Lib.hid hm; clear hm
  have H_hk := Lib.hid hk; clear hk
  go_enter Tryz.func20, Tryz.ntmps20
  go_wp2_with (fail)
  generalize hw1 : (w.alloc _).alloc _ = w1
  rw [← hg]
  obtain ⟨b1, b2, hf⟩ := H_bx.out w1 hw1
  have H_b1 := Lib.hid b1; clear b1
  have H_b2 := Lib.hid b2; clear b2
  have H_hf := Lib.hid hf; clear hf
  have H_hw1 := Lib.hid hw1; clear hw1
  have H_hg := Lib.hid hg; clear hg
  refine bodyPost_ret (results_cell_row rfl _ _ (g + 1) 31 #[.bool false, .slice a m c, .slice da k dc] (0, 0) _ rfl H_b2.out Tryz.underlying31 rfl (by kernel_rfl)) rfl ?_
  refine ⟨_, rfl, ⟨false, _, l, _, dl, rfl, ?_, H_h2.out, fun _ => rfl, ?_, ?_, H_h6.out, H_h7.out⟩, ?_⟩
  · exact H_h1.out.fresh H_hf.out
  · rw [← H_h4.out, sint_natAbs]; simp [sint]
  · exact H_h5.out.fresh H_hf.out
  · exact H_hf.out

end Go.Proofs.YtibaeafmgncjdaaGreatDoor
