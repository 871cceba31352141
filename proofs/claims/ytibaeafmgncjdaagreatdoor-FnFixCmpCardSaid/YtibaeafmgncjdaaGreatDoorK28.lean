/- FnFixCmp's walk. -/
import Derived.Test.YtibaeafmgncjdaaGreatDoorK12
import Derived.Test.YtibaeafmgncjdaaGreatDoorK26
import Derived.Test.YtibaeafmgncjdaaGreatDoorK27
namespace Go.Proofs.YtibaeafmgncjdaaGreatDoor
open Go.RowKit

theorem zfix_abs (n : Bool) (c : Nat) : (zfix n c).natAbs = c := by unfold zfix; split <;> simp

set_option maxRecDepth 20000 in
set_option maxHeartbeats 2000000 in
theorem FnFixCmp_out (n1 n2 : Bool) (c1 c2 : Nat) (s1 s2 : Int) (w : World) (h : (fixIs c1 s1 && fixIs c2 s2) = false) :
    Calls Tryz.prog 3 #[.agg #[.bool n1, .int .u64 c1, .int .i64 s1], .agg #[.bool n2, .int .u64 c2, .int .i64 s2]] w (VRet w (.bool true)) := by
  obtain ⟨g, hg⟩ : ∃ g, g = w.heap.size := ⟨_, rfl⟩
  have bx := boxes3 w #[.bool n1, .int .u64 c1, .int .i64 s1] #[.bool n2, .int .u64 c2, .int .i64 s2] #[.bool n1, .int .u64 c1, .int .i64 s1, .bool n2, .int .u64 c2, .int .i64 s2] 24 24 24 g hg
  have H_bx := Lib.hid bx; clear bx
  have H_h := Lib.hid h; clear h
  go_enter Tryz.func3, Tryz.ntmps3
  go_wp2_with (fail)
  generalize hw1 : ((w.alloc _).alloc _).alloc _ = w1
  rw [← hg]
  obtain ⟨b1, b2, b3, hf, hgs⟩ := H_bx.out w1 hw1
  refine (FixAll_two n1 n2 c1 c2 s1 s2 _ _ b3).mono ?_
  rintro e w2 ⟨rfl, f2⟩
  rw [H_h.out]
  have H_b1 := Lib.hid b1; clear b1
  have H_b2 := Lib.hid b2; clear b2
  have H_b3 := Lib.hid b3; clear b3
  have H_hf := Lib.hid hf; clear hf
  have H_hw1 := Lib.hid hw1; clear hw1
  have H_hg := Lib.hid hg; clear hg
  have H_hgs := Lib.hid hgs; clear hgs
  have H_f2 := Lib.hid f2; clear f2
  go_wp2_with (fail)
  go_ret
  exact ⟨rfl, fresh_trans H_hf.out H_f2.out⟩

set_option maxRecDepth 100000 in
set_option maxHeartbeats 8000000 in
theorem FnFixCmp_main (n1 n2 : Bool) (c1 s1 c2 s2 : Nat) (w : World) (hG : Glob w) (hP : Pow10s w) (hE : ErrIs w) (hs1 : s1 ≤ 19) (hs2 : s2 ≤ 19) (hc1 : c1 ≤ 9999999999999999999) (hc2 : c2 ≤ 9999999999999999999) :
    Calls Tryz.prog 3 #[fx n1 c1 s1, fx n2 c2 s2] w (VRet w (.bool true)) := by
  have h : (fixIs c1 s1 && fixIs c2 s2) = true := by unfold fixIs; simp; omega
  have hm : ∀ W, Fresh w W → Calls Tryz.prog 46 #[gd (n1 && decide (0 < c1)) s1 c1, gd (n2 && decide (0 < c2)) s2 c2] W (VRet W (.int .i64 (zcmp n1 c1 s1 n2 c2 s2))) := fun W h => by
    have := Cmp_any (n1 && decide (0 < c1)) (n2 && decide (0 < c2)) c1 s1 c2 s2 W (hG.fresh h) (hP.fresh h) (hE.fresh h) hs1 hs2 hc1 hc2 canon_pos canon_pos
    rw [zcmp_canon] at this
    exact this
  have hma : ∀ W, Fresh w W → Calls Tryz.prog 46 #[gd false s1 c1, gd false s2 c2] W (VRet W (.int .i64 (zcmp false c1 s1 false c2 s2))) := fun W h =>
    Cmp_any false false c1 s1 c2 s2 W (hG.fresh h) (hP.fresh h) (hE.fresh h) hs1 hs2 hc1 hc2 (by simp) (by simp)
  have hfr : ∀ W x y, SFr W x (zfix n1 c1) (10 ^ s1) → SFr W y (zfix n2 c2) (10 ^ s2) → Calls Tryz.prog 19 #[x, y] W (IRet W (zcmp n1 c1 s1 n2 c2 s2)) := fun W x y hx hy =>
    FracCmp_any x y _ _ _ _ W hx hy (zfix_spow hc1) (zfix_spow hc2) (ten_spow hs1) (ten_spow hs2)
  have hfa : ∀ W x y, SFr W x (c1 : Int) (10 ^ s1) → SFr W y (c2 : Int) (10 ^ s2) → Calls Tryz.prog 19 #[x, y] W (IRet W (zcmp false c1 s1 false c2 s2)) := fun W x y hx hy =>
    FracCmp_any x y _ _ _ _ W hx hy (zfix_spow (neg := false) hc1) (zfix_spow (neg := false) hc2) (ten_spow hs1) (ten_spow hs2)
  have hab1 : ∀ W x, SFr W x (zfix n1 c1) (10 ^ s1) → Calls Tryz.prog 20 #[x] W (FRet W (c1 : Int) (10 ^ s1)) := fun W x hx => by
    have := FracAbs_any x _ _ W hx
    rw [zfix_abs] at this
    exact this
  have hab2 : ∀ W x, SFr W x (zfix n2 c2) (10 ^ s2) → Calls Tryz.prog 20 #[x] W (FRet W (c2 : Int) (10 ^ s2)) := fun W x hx => by
    have := FracAbs_any x _ _ W hx
    rw [zfix_abs] at this
    exact this
  have hfrC := Lib.hid hfr
  have hfaC := Lib.hid hfa
  clear hfr hfa
  generalize zcmp n1 c1 s1 n2 c2 s2 = z at *
  generalize zcmp false c1 s1 false c2 s2 = za at *
  have hct := fun W (hW : Fresh w W) => FixCmp_any n1 n2 s1 c1 s2 c2 z W hs1 hc1 hs2 hc2 (fun W2 h2 => hm W2 (fresh_trans hW h2))
  have hca := fun W (hW : Fresh w W) => FixCmpAbs_any n1 n2 s1 c1 s2 c2 za W hs1 hc1 hs2 hc2 (fun W2 h2 => CmpAbs_any _ _ c1 s1 c2 s2 za W2 hs1 hs2 (fun W3 h3 => hma W3 (fresh_trans hW (fresh_trans h2 h3))))
  have hce := fun W (hW : Fresh w W) => FixEqual_any n1 n2 s1 c1 s2 c2 (z == 0) W hs1 hc1 hs2 hc2 (fun W2 h2 => Equal_any _ _ c1 s1 c2 s2 z W2 (fun W3 h3 => hm W3 (fresh_trans hW (fresh_trans h2 h3))))
  have hcl := fun W (hW : Fresh w W) => FixLess_any n1 n2 s1 c1 s2 c2 (decide (z < 0)) W hs1 hc1 hs2 hc2 (fun W2 h2 => Less_any _ _ c1 s1 c2 s2 z W2 (fun W3 h3 => hm W3 (fresh_trans hW (fresh_trans h2 h3))))
  obtain ⟨be, hbe⟩ : ∃ be, be = (z == 0) := ⟨_, rfl⟩
  obtain ⟨bl, hbl⟩ : ∃ bl, bl = decide (z < 0) := ⟨_, rfl⟩
  rw [← hbe] at hce
  rw [← hbl] at hcl
  have H_hab1 := Lib.hid hab1; clear hab1
  have H_hab2 := Lib.hid hab2; clear hab2
  have H_hm := Lib.hid hm; clear hm
  have H_hma := Lib.hid hma; clear hma
  have H_hct := Lib.hid hct; clear hct
  have H_hca := Lib.hid hca; clear hca
  have H_hce := Lib.hid hce; clear hce
  have H_hcl := Lib.hid hcl; clear hcl
  have H_hbe := Lib.hid hbe; clear hbe
  have H_hbl := Lib.hid hbl; clear hbl
  obtain ⟨g, hg⟩ : ∃ g, g = w.heap.size := ⟨_, rfl⟩
  have bx := boxes3 w #[.bool n1, .int .u64 c1, .int .i64 s1] #[.bool n2, .int .u64 c2, .int .i64 s2] #[.bool n1, .int .u64 c1, .int .i64 s1, .bool n2, .int .u64 c2, .int .i64 s2] 24 24 24 g hg
  have H_bx := Lib.hid bx; clear bx
  have H_h := Lib.hid h; clear h
  have H_hG := Lib.hid hG; clear hG
  have H_hP := Lib.hid hP; clear hP
  have H_hE := Lib.hid hE; clear hE
  go_enter Tryz.func3, Tryz.ntmps3
  go_wp2_with (fail)
  generalize hw1 : ((w.alloc _).alloc _).alloc _ = w1
  rw [← hg]
  obtain ⟨b1, b2, b3, hf, hgs⟩ := H_bx.out w1 hw1
  refine (FixAll_two n1 n2 c1 c2 s1 s2 _ _ b3).mono ?_
  rintro e w2 ⟨rfl, f2⟩
  rw [H_h.out]
  have d1 := row_fresh b1 f2
  have d2 := row_fresh b2 f2
  have hfa := fresh_trans hf f2
  clear b1 b2 b3 hf f2
  have H_d1 := Lib.hid d1; clear d1
  have H_d2 := Lib.hid d2; clear d2
  have H_hw1 := Lib.hid hw1; clear hw1
  have H_hg := Lib.hid hg; clear hg
  have H_hgs := Lib.hid hgs; clear hgs
  have H_hfa := Lib.hid hfa; clear hfa
  go_wp2_with (fail)
  refine wp_region_slots 6 [20, 21, 22, 23, 5, 6] (fun l us w' => ∃ u0 u1 u2 u3 u4 u5 k4 k5, us = [u0, u1, u2, u3, u4, u5] ∧ Fresh w2 w' ∧ (l.getD 0 false = true → u0 = fx n1 c1 s1) ∧ (l.getD 1 false = true → SFr w' u1 (zfix n1 c1) (10 ^ s1)) ∧ (l.getD 2 false = true → u2 = fx n2 c2 s2) ∧ (l.getD 3 false = true → SFr w' u3 (zfix n2 c2) (10 ^ s2)) ∧ (l.getD 4 false = true → u4 = .pointer (some ⟨k4, 0, none⟩) ∧ w2.heap.size ≤ k4 ∧ w'.heap[k4]? = some (.cells #[.bool false, .slice none 0 0, .slice none 0 0] 31 (0, 0))) ∧ (l.getD 5 false = true → u5 = .pointer (some ⟨k5, 0, none⟩) ∧ w2.heap.size ≤ k5 ∧ w'.heap[k5]? = some (.cells #[.bool false, .slice none 0 0, .slice none 0 0] 31 (0, 0))) ∧ (l.getD 4 false = true → l.getD 5 false = true → k4 ≠ k5)) (by kernel_rfl) (by kernel_rfl) [undef, undef, undef, undef, undef, undef] rfl ⟨_, _, _, _, _, _, 0, 0, rfl, (Keep.refl _ _).drew, by simp, by simp, by simp, by simp, by simp, by simp, by simp⟩ ?step ?fin
  case step =>
    rintro l us w' i ⟨u0, u1, u2, u3, u4, u5, k4, k5, rfl, hf', h0, h1, h2, h3, h4, h5, h6⟩ hi hr K hK
    obtain rfl | rfl | rfl | rfl | rfl | rfl : i = 0 ∨ i = 1 ∨ i = 2 ∨ i = 3 ∨ i = 4 ∨ i = 5 := by omega
    · have d := row_fresh H_d1.out hf'
      have k0 := row_cell d 0
      have k1 := row_cell d 1
      have k2 := row_cell d 2
      simp at k0 k1 k2
      have hK0 := hK [fx n1 c1 s1, u1, u2, u3, u4, u5] w' ⟨_, _, _, _, _, _, k4, k5, rfl, hf', fun _ => rfl, fun h => h1 (was_up h (by decide)), fun h => h2 (was_up h (by decide)), fun h => h3 (was_up h (by decide)), fun h => h4 (was_up h (by decide)), fun h => h5 (was_up h (by decide)), fun h h' => h6 (was_up h (by decide)) (was_up h' (by decide))⟩
      have H_hK0 := Lib.hid hK0; clear hK0
      clear hK hf' h0 h1 h2 h3 h4 h5 h6 hr d
      refine wpOp_step rfl (fun K' hK' => ?_)
      have H_hK' := Lib.hid hK'; clear hK'
      try simp only [putAll, Act.put, List.getElem_toArray, List.getElem_cons_zero, List.setIfInBounds_toArray, List.set_cons_zero, List.set_cons_succ]
      go_simp
      exact H_hK'.out _ _ H_hK0.out
    · have e0 := h0 (ready_dep hr (by kernel_rfl))
      subst e0
      have hK0 := fun x w3 (hF : Fresh w' w3) (hx : SFr w3 x (zfix n1 c1) (10 ^ s1)) => hK [(fx n1 c1 s1), x, u2, u3, u4, u5] w3 ⟨_, _, _, _, _, _, k4, k5, rfl, fresh_trans hf' hF, fun _ => rfl, fun _ => hx, fun h => h2 (was_up h (by decide)), fun h => (h3 (was_up h (by decide))).fresh hF, fun h => ⟨(h4 (was_up h (by decide))).1, (h4 (was_up h (by decide))).2.1, row_fresh (h4 (was_up h (by decide))).2.2 hF⟩, fun h => ⟨(h5 (was_up h (by decide))).1, (h5 (was_up h (by decide))).2.1, row_fresh (h5 (was_up h (by decide))).2.2 hF⟩, fun h h' => h6 (was_up h (by decide)) (was_up h' (by decide))⟩
      have H_hK0 := Lib.hid hK0; clear hK0
      clear hK hf' h0 h1 h2 h3 h4 h5 h6 hr
      refine wpOp_step rfl (fun K' hK' => ?_)
      have H_hK' := Lib.hid hK'; clear hK'
      try simp only [putAll, Act.put, List.getElem_toArray, List.getElem_cons_zero, List.getElem_cons_succ, List.setIfInBounds_toArray, List.set_cons_zero, List.set_cons_succ]
      go_simp
      refine (FixNum_any n1 c1 s1 _ hs1 hc1).mono ?_
      rintro e w3 ⟨x, rfl, hx, f3⟩
      have H_hx := Lib.hid hx; clear hx
      have H_f3 := Lib.hid f3; clear f3
      go_wp2_with (fail)
      exact H_hK'.out _ _ (H_hK0.out _ _ H_f3.out H_hx.out)
    · have d := row_fresh H_d2.out hf'
      have k0 := row_cell d 0
      have k1 := row_cell d 1
      have k2 := row_cell d 2
      simp at k0 k1 k2
      have hK0 := hK [u0, u1, fx n2 c2 s2, u3, u4, u5] w' ⟨_, _, _, _, _, _, k4, k5, rfl, hf', fun h => h0 (was_up h (by decide)), fun h => h1 (was_up h (by decide)), fun _ => rfl, fun h => h3 (was_up h (by decide)), fun h => h4 (was_up h (by decide)), fun h => h5 (was_up h (by decide)), fun h h' => h6 (was_up h (by decide)) (was_up h' (by decide))⟩
      have H_hK0 := Lib.hid hK0; clear hK0
      clear hK hf' h0 h1 h2 h3 h4 h5 h6 hr d
      refine wpOp_step rfl (fun K' hK' => ?_)
      have H_hK' := Lib.hid hK'; clear hK'
      try simp only [putAll, Act.put, List.getElem_toArray, List.getElem_cons_zero, List.getElem_cons_succ, List.setIfInBounds_toArray, List.set_cons_zero, List.set_cons_succ]
      go_simp
      exact H_hK'.out _ _ H_hK0.out
    · have e0 := h2 (ready_dep hr (by kernel_rfl))
      subst e0
      have hK0 := fun x w3 (hF : Fresh w' w3) (hx : SFr w3 x (zfix n2 c2) (10 ^ s2)) => hK [u0, u1, (fx n2 c2 s2), x, u4, u5] w3 ⟨_, _, _, _, _, _, k4, k5, rfl, fresh_trans hf' hF, fun h => h0 (was_up h (by decide)), fun h => (h1 (was_up h (by decide))).fresh hF, fun _ => rfl, fun _ => hx, fun h => ⟨(h4 (was_up h (by decide))).1, (h4 (was_up h (by decide))).2.1, row_fresh (h4 (was_up h (by decide))).2.2 hF⟩, fun h => ⟨(h5 (was_up h (by decide))).1, (h5 (was_up h (by decide))).2.1, row_fresh (h5 (was_up h (by decide))).2.2 hF⟩, fun h h' => h6 (was_up h (by decide)) (was_up h' (by decide))⟩
      have H_hK0 := Lib.hid hK0; clear hK0
      clear hK hf' h0 h1 h2 h3 h4 h5 h6 hr
      refine wpOp_step rfl (fun K' hK' => ?_)
      have H_hK' := Lib.hid hK'; clear hK'
      try simp only [putAll, Act.put, List.getElem_toArray, List.getElem_cons_zero, List.getElem_cons_succ, List.setIfInBounds_toArray, List.set_cons_zero, List.set_cons_succ]
      go_simp
      refine (FixNum_any n2 c2 s2 _ hs2 hc2).mono ?_
      rintro e w3 ⟨x, rfl, hx, f3⟩
      have H_hx := Lib.hid hx; clear hx
      have H_f3 := Lib.hid f3; clear f3
      go_wp2_with (fail)
      exact H_hK'.out _ _ (H_hK0.out _ _ H_f3.out H_hx.out)
    · have hF : Fresh w' (w'.alloc (.cells #[.bool false, .slice none 0 0, .slice none 0 0] 31 (0, 0))) := (Keep.refl _ _).alloc _
      have hK0 := hK [u0, u1, u2, u3, (.pointer (some ⟨w'.heap.size, 0, none⟩)), u5] _ ⟨_, _, _, _, _, _, w'.heap.size, k5, rfl, fresh_trans hf' hF, fun h => h0 (was_up h (by decide)), fun h => (h1 (was_up h (by decide))).fresh hF, fun h => h2 (was_up h (by decide)), fun h => (h3 (was_up h (by decide))).fresh hF, fun _ => ⟨rfl, hf'.size, heap_alloc_new w' _⟩, fun h => ⟨(h5 (was_up h (by decide))).1, (h5 (was_up h (by decide))).2.1, row_fresh (h5 (was_up h (by decide))).2.2 hF⟩, fun _ h' => fun e => by have := lt_of_row (h5 (was_up h' (by decide))).2.2; omega⟩
      have H_hK0 := Lib.hid hK0; clear hK0
      clear hK hf' h0 h1 h2 h3 h4 h5 h6 hr hF
      refine wpOp_step rfl (fun K' hK' => ?_)
      have H_hK' := Lib.hid hK'; clear hK'
      try simp only [putAll, Act.put, List.getElem_toArray, List.getElem_cons_zero, List.getElem_cons_succ, List.setIfInBounds_toArray, List.set_cons_zero, List.set_cons_succ]
      go_simp
      exact H_hK'.out _ _ H_hK0.out
    · have hF : Fresh w' (w'.alloc (.cells #[.bool false, .slice none 0 0, .slice none 0 0] 31 (0, 0))) := (Keep.refl _ _).alloc _
      have hK0 := hK [u0, u1, u2, u3, u4, (.pointer (some ⟨w'.heap.size, 0, none⟩))] _ ⟨_, _, _, _, _, _, k4, w'.heap.size, rfl, fresh_trans hf' hF, fun h => h0 (was_up h (by decide)), fun h => (h1 (was_up h (by decide))).fresh hF, fun h => h2 (was_up h (by decide)), fun h => (h3 (was_up h (by decide))).fresh hF, fun h => ⟨(h4 (was_up h (by decide))).1, (h4 (was_up h (by decide))).2.1, row_fresh (h4 (was_up h (by decide))).2.2 hF⟩, fun _ => ⟨rfl, hf'.size, heap_alloc_new w' _⟩, fun h _ => fun e => by have := lt_of_row (h4 (was_up h (by decide))).2.2; omega⟩
      have H_hK0 := Lib.hid hK0; clear hK0
      clear hK hf' h0 h1 h2 h3 h4 h5 h6 hr hF
      refine wpOp_step rfl (fun K' hK' => ?_)
      have H_hK' := Lib.hid hK'; clear hK'
      try simp only [putAll, Act.put, List.getElem_toArray, List.getElem_cons_zero, List.getElem_cons_succ, List.setIfInBounds_toArray, List.set_cons_zero, List.set_cons_succ]
      go_simp
      exact H_hK'.out _ _ H_hK0.out
  case fin =>
    rintro us w3 ⟨u0, u1, u2, u3, u4, u5, k4, k5, rfl, hf', -, h1, -, h3, h4, h5, h6⟩
    have sx := h1 rfl
    have sy := h3 rfl
    obtain ⟨rfl, g4, r4⟩ := h4 rfl
    obtain ⟨rfl, g5, r5⟩ := h5 rfl
    have hk := h6 rfl rfl
    have sx0 := sx
    have sy0 := sy
    obtain ⟨xn, xv, xl, xd, xdl, rfl, x1, -, -, -, x2, -⟩ := sx
    obtain ⟨yn, yv, yl, yd, ydl, rfl, y1, -, -, -, y2, -⟩ := sy
    obtain ⟨xa, xc, rfl⟩ := x1.form
    obtain ⟨ya, yc, rfl⟩ := y1.form
    obtain ⟨xda, xdc, rfl⟩ := x2.form
    obtain ⟨yda, ydc, rfl⟩ := y2.form
    generalize xl.length = xm at *
    generalize yl.length = ym at *
    generalize xdl.length = xdm at *
    generalize ydl.length = ydm at *
    have q0 : w3.frozen? ⟨k4, 0, none⟩ = false := frozen_of_row _ _ _ _ _ r4
    have q1 : w3.frozen? ⟨k4, 1, none⟩ = false := frozen_of_row _ _ _ _ _ r4
    have q2 : w3.frozen? ⟨k4, 2, none⟩ = false := frozen_of_row _ _ _ _ _ r4
    have q3 : w3.frozen? ⟨k5, 0, none⟩ = false := frozen_of_row _ _ _ _ _ r5
    have q4 : w3.frozen? ⟨k5, 1, none⟩ = false := frozen_of_row _ _ _ _ _ r5
    have q5 : w3.frozen? ⟨k5, 2, none⟩ = false := frozen_of_row _ _ _ _ _ r5
    have p0 := row_cell r4 0
    have p1 := row_cell r4 1
    have p2 := row_cell r4 2
    simp at p0 p1 p2
    have p3 := row_cell r5 0
    have p4 := row_cell r5 1
    have p5 := row_cell r5 2
    simp at p3 p4 p5
    have t4 := row3_ne (x := .bool yn) (y := .slice ya ym yc) (z := .slice yda ydm ydc) (Ne.symm hk) (row3 (x := .bool xn) (y := .slice xa xm xc) (z := .slice xda xdm xdc) r4)
    have t5 := row3 (x := .bool yn) (y := .slice ya ym yc) (z := .slice yda ydm ydc) (row3_ne (x := .bool xn) (y := .slice xa xm xc) (z := .slice xda xdm xdc) hk r5)
    have c5 := (row_cell (row3_ne (x := .bool xn) (y := .slice xa xm xc) (z := .slice xda xdm xdc) hk r5) 0)
    have sx1 := (sx0.set3 (by simpa using row_cell r4 0) (fun n e => by simp at e) (.bool xn) (.slice xa xm xc) (.slice xda xdm xdc)).set3 (by simpa using c5) (fun n e => by simp at e) (.bool yn) (.slice ya ym yc) (.slice yda ydm ydc)
    have sy1 := (sy0.set3 (by simpa using row_cell r4 0) (fun n e => by simp at e) (.bool xn) (.slice xa xm xc) (.slice xda xdm xdc)).set3 (by simpa using c5) (fun n e => by simp at e) (.bool yn) (.slice ya ym yc) (.slice yda ydm ydc)
    have d1' := row_fresh H_d1.out hf'
    have d2' := row_fresh H_d2.out hf'
    have hl1 := lt_of_row H_d1.out
    have hl2 := lt_of_row H_d2.out
    have d1x := row3_ne (x := .bool yn) (y := .slice ya ym yc) (z := .slice yda ydm ydc) (show k5 ≠ g by omega) (row3_ne (x := .bool xn) (y := .slice xa xm xc) (z := .slice xda xdm xdc) (show k4 ≠ g by omega) d1')
    have d2x := row3_ne (x := .bool yn) (y := .slice ya ym yc) (z := .slice yda ydm ydc) (show k5 ≠ g + 1 by omega) (row3_ne (x := .bool xn) (y := .slice xa xm xc) (z := .slice xda xdm xdc) (show k4 ≠ g + 1 by omega) d2')
    have hsz := H_hfa.out.size
    have f9 := ((fresh_trans H_hfa.out hf').set3 (g := k4) (o1 := 0) (o2 := 1) (o3 := 2) (v1 := .bool xn) (v2 := .slice xa xm xc) (v3 := .slice xda xdm xdc) (by omega)).set3 (g := k5) (o1 := 0) (o2 := 1) (o3 := 2) (v1 := .bool yn) (v2 := .slice ya ym yc) (v3 := .slice yda ydm ydc) (by omega)
    clear sx0 sy0 x1 x2 y1 y2 r4 r5 hf' d1' d2' h1 h3 h4 h5 h6 c5 g4 g5 hsz
    have hk2 : ¬ k5 = k4 := fun e => hk e.symm
    have hk3 : ¬ k4 = k5 := hk
    clear hk
    have H_t4 := Lib.hid t4; clear t4
    have H_t5 := Lib.hid t5; clear t5
    have H_sx1 := Lib.hid sx1; clear sx1
    have H_sy1 := Lib.hid sy1; clear sy1
    have H_d1x := Lib.hid d1x; clear d1x
    have H_d2x := Lib.hid d2x; clear d2x
    have H_f9 := Lib.hid f9; clear f9
    have H_hl1 := Lib.hid hl1; clear hl1
    have H_hl2 := Lib.hid hl2; clear hl2
    refine wpAny_next (fuel := 1) (i := 6) rfl (by kernel_rfl) (fun K hK => ?_)
    try simp only [putAll, Act.put, List.getElem_toArray, List.getElem_cons_zero, List.getElem_cons_succ, List.setIfInBounds_toArray, List.set_cons_zero, List.set_cons_succ]
    go_simp
    refine hK.out _ _ ?_
    clear hK K
    refine wpAny_next (fuel := 0) (i := 7) rfl (by kernel_rfl) (fun K hK => ?_)
    go_simp
    refine hK.out _ _ ?_
    clear hK K
    refine wpAny_end (by kernel_rfl) ?_ _
    clear p0 p1 p2 p3 p4 p5 q0 q1 q2 q3 q4 q5
    generalize hw4 : World.setCell _ _ _ = w4
    have t4 := H_t4.out
    have t5 := H_t5.out
    have sx := H_sx1.out
    have sy := H_sy1.out
    have d1 := H_d1x.out
    have d2 := H_d2x.out
    have f9 := H_f9.out
    rw [hw4] at t4 t5 sx sy d1 d2 f9
    clear H_t4 H_t5 H_sx1 H_sy1 H_d1x H_d2x H_f9 H_d1 H_d2
    have m0 := row_cell t4 0
    have m1 := row_cell t4 1
    have m2 := row_cell t4 2
    simp at m0 m1 m2
    have m3 := row_cell t5 0
    have m4 := row_cell t5 1
    have m5 := row_cell t5 2
    simp at m3 m4 m5
    have k0 := row_cell d1 0
    have k1 := row_cell d1 1
    have k2 := row_cell d1 2
    simp at k0 k1 k2
    have k3 := row_cell d2 0
    have k4' := row_cell d2 1
    have k5' := row_cell d2 2
    simp at k3 k4' k5'
    have H_hw4 := Lib.hid hw4; clear hw4
    have H_t4 := Lib.hid t4; clear t4
    have H_t5 := Lib.hid t5; clear t5
    have H_sx := Lib.hid sx; clear sx
    have H_sy := Lib.hid sy; clear sy
    have H_d1 := Lib.hid d1; clear d1
    have H_d2 := Lib.hid d2; clear d2
    have H_f9 := Lib.hid f9; clear f9
    try simp only [putAll, Act.put, List.getElem_toArray, List.getElem_cons_zero, List.getElem_cons_succ, List.setIfInBounds_toArray, List.set_cons_zero, List.set_cons_succ]
    go_wp2_with (fail)
    refine (H_hct.out _ H_f9.out).mono ?_
    rintro e v0 ⟨rfl, fv0⟩
    have v0_0 := cell_fresh k0 fv0
    have v0_1 := cell_fresh k1 fv0
    have v0_2 := cell_fresh k2 fv0
    have v0_3 := cell_fresh k3 fv0
    have v0_4 := cell_fresh k4' fv0
    have v0_5 := cell_fresh k5' fv0
    have v0_6 := cell_fresh m0 fv0
    have v0_7 := cell_fresh m1 fv0
    have v0_8 := cell_fresh m2 fv0
    have v0_9 := cell_fresh m3 fv0
    have v0_10 := cell_fresh m4 fv0
    have v0_11 := cell_fresh m5 fv0
    have fw0 := fresh_trans H_f9.out fv0
    clear k0 k1 k2 k3 k4' k5' m0 m1 m2 m3 m4 m5
    have H_fv0 := Lib.hid fv0; clear fv0
    have H_fw0 := Lib.hid fw0; clear fw0
    go_wp2_with (fail)
    refine (H_hca.out _ H_fw0.out).mono ?_
    rintro e v1 ⟨rfl, fv1⟩
    have v1_0 := cell_fresh v0_0 fv1
    have v1_1 := cell_fresh v0_1 fv1
    have v1_2 := cell_fresh v0_2 fv1
    have v1_3 := cell_fresh v0_3 fv1
    have v1_4 := cell_fresh v0_4 fv1
    have v1_5 := cell_fresh v0_5 fv1
    have v1_6 := cell_fresh v0_6 fv1
    have v1_7 := cell_fresh v0_7 fv1
    have v1_8 := cell_fresh v0_8 fv1
    have v1_9 := cell_fresh v0_9 fv1
    have v1_10 := cell_fresh v0_10 fv1
    have v1_11 := cell_fresh v0_11 fv1
    have fw1 := fresh_trans H_fw0.out fv1
    clear v0_0 v0_1 v0_2 v0_3 v0_4 v0_5 v0_6 v0_7 v0_8 v0_9 v0_10 v0_11
    have H_fv1 := Lib.hid fv1; clear fv1
    have H_fw1 := Lib.hid fw1; clear fw1
    go_wp2_with (fail)
    refine (H_hce.out _ H_fw1.out).mono ?_
    rintro e v2 ⟨rfl, fv2⟩
    have v2_0 := cell_fresh v1_0 fv2
    have v2_1 := cell_fresh v1_1 fv2
    have v2_2 := cell_fresh v1_2 fv2
    have v2_3 := cell_fresh v1_3 fv2
    have v2_4 := cell_fresh v1_4 fv2
    have v2_5 := cell_fresh v1_5 fv2
    have v2_6 := cell_fresh v1_6 fv2
    have v2_7 := cell_fresh v1_7 fv2
    have v2_8 := cell_fresh v1_8 fv2
    have v2_9 := cell_fresh v1_9 fv2
    have v2_10 := cell_fresh v1_10 fv2
    have v2_11 := cell_fresh v1_11 fv2
    have fw2 := fresh_trans H_fw1.out fv2
    clear v1_0 v1_1 v1_2 v1_3 v1_4 v1_5 v1_6 v1_7 v1_8 v1_9 v1_10 v1_11
    have H_fv2 := Lib.hid fv2; clear fv2
    have H_fw2 := Lib.hid fw2; clear fw2
    go_wp2_with (fail)
    refine (H_hcl.out _ H_fw2.out).mono ?_
    rintro e v3 ⟨rfl, fv3⟩
    have v3_0 := cell_fresh v2_0 fv3
    have v3_1 := cell_fresh v2_1 fv3
    have v3_2 := cell_fresh v2_2 fv3
    have v3_3 := cell_fresh v2_3 fv3
    have v3_4 := cell_fresh v2_4 fv3
    have v3_5 := cell_fresh v2_5 fv3
    have v3_6 := cell_fresh v2_6 fv3
    have v3_7 := cell_fresh v2_7 fv3
    have v3_8 := cell_fresh v2_8 fv3
    have v3_9 := cell_fresh v2_9 fv3
    have v3_10 := cell_fresh v2_10 fv3
    have v3_11 := cell_fresh v2_11 fv3
    have fw3 := fresh_trans H_fw2.out fv3
    clear v2_0 v2_1 v2_2 v2_3 v2_4 v2_5 v2_6 v2_7 v2_8 v2_9 v2_10 v2_11
    have H_fv3 := Lib.hid fv3; clear fv3
    have H_fw3 := Lib.hid fw3; clear fw3
    go_wp2_with (fail)
    have t1 := H_hbe.out.symm
    have t2 := H_hbl.out.symm
    clear v3_0 v3_1 v3_2 v3_3 v3_4 v3_5
    have q0 := v3_6
    have q1 := v3_7
    have q2 := v3_8
    have q3 := v3_9
    have q4 := v3_10
    have q5 := v3_11
    clear v3_6 v3_7 v3_8 v3_9 v3_10 v3_11
    have fz : Fresh w4 v3 := fresh_trans H_fv0.out (fresh_trans H_fv1.out (fresh_trans H_fv2.out H_fv3.out))
    have sx := H_sx.out.fresh fz
    have sy := H_sy.out.fresh fz
    have H_fz := Lib.hid fz; clear fz
    have H_sx := Lib.hid sx; clear sx
    have H_sy := Lib.hid sy; clear sy
    go_region_held3 (fun (w' : World) => w'.cell? ⟨k4, 0, none⟩ = some (.bool xn) ∧ w'.cell? ⟨k4, 1, none⟩ = some (.slice xa xm xc) ∧ w'.cell? ⟨k4, 2, none⟩ = some (.slice xda xdm xdc) ∧ w'.cell? ⟨k5, 0, none⟩ = some (.bool yn) ∧ w'.cell? ⟨k5, 1, none⟩ = some (.slice ya ym yc) ∧ w'.cell? ⟨k5, 2, none⟩ = some (.slice yda ydm ydc)) (first | exact ⟨q0, q1, q2, q3, q4, q5⟩ | exact ⟨z2_0, z2_1, z2_2, z2_3, z2_4, z2_5⟩ | exact ⟨z4_0, z4_1, z4_2, z4_3, z4_4, z4_5⟩ | exact ⟨z6_0, z6_1, z6_2, z6_3, z6_4, z6_5⟩ | exact ⟨z8_0, z8_1, z8_2, z8_3, z8_4, z8_5⟩ | exact ⟨z10_0, z10_1, z10_2, z10_3, z10_4, z10_5⟩ | exact ⟨z12_0, z12_1, z12_2, z12_3, z12_4, z12_5⟩ | exact ⟨z14_0, z14_1, z14_2, z14_3, z14_4, z14_5⟩) (first
    | (go_at_call 19; (with_reducible refine (hfrC.out _ _ _ (H_sx.out.fresh (by first | exact Keep.refl _ _ | exact (Keep.refl _ _).drew | exact (Keep.refl _ _).drewN _)) (H_sy.out.fresh (by first | exact Keep.refl _ _ | exact (Keep.refl _ _).drew | exact (Keep.refl _ _).drewN _))).mono ?_); rintro e y1_ ⟨rfl, r⟩; have hy : Fresh v3 y1_ := (by first | exact r | exact r.of_drew | exact r.of_drewN); have z2_0 := cell_fresh q0 hy; have z2_1 := cell_fresh q1 hy; have z2_2 := cell_fresh q2 hy; have z2_3 := cell_fresh q3 hy; have z2_4 := cell_fresh q4 hy; have z2_5 := cell_fresh q5 hy; have fy1_ := hy; have H_fy1_ := Lib.hid fy1_; clear r hy fy1_)
    | (go_at_call 20; (with_reducible refine (H_hab1.out _ _ (H_sx.out.fresh H_fy1_.out)).mono ?_); rintro e y3_ ⟨ax, rfl, hsax, r⟩; have hy : Fresh y1_ y3_ := r; have z4_0 := cell_fresh z2_0 hy; have z4_1 := cell_fresh z2_1 hy; have z4_2 := cell_fresh z2_2 hy; have z4_3 := cell_fresh z2_3 hy; have z4_4 := cell_fresh z2_4 hy; have z4_5 := cell_fresh z2_5 hy; have fy3_ := fresh_trans H_fy1_.out hy; have H_fy3_ := Lib.hid fy3_; have H_hyax := Lib.hid hy; have H_hsax := Lib.hid hsax; clear r hy hsax fy3_)
    | (go_at_call 20; (with_reducible refine (H_hab2.out _ _ (H_sy.out.fresh H_fy3_.out)).mono ?_); rintro e y5_ ⟨ay, rfl, hsay, r⟩; have hy : Fresh y3_ y5_ := r; have z6_0 := cell_fresh z4_0 hy; have z6_1 := cell_fresh z4_1 hy; have z6_2 := cell_fresh z4_2 hy; have z6_3 := cell_fresh z4_3 hy; have z6_4 := cell_fresh z4_4 hy; have z6_5 := cell_fresh z4_5 hy; have fy5_ := fresh_trans H_fy3_.out hy; have H_fy5_ := Lib.hid fy5_; have H_hyay := Lib.hid hy; have H_hsay := Lib.hid hsay; clear r hy hsay fy5_)
    | (go_at_call 19; (with_reducible refine (hfaC.out _ _ _ (H_hsax.out.fresh H_hyay.out) H_hsay.out).mono ?_); rintro e y7_ ⟨rfl, r⟩; have hy : Fresh y5_ y7_ := r; have z8_0 := cell_fresh z6_0 hy; have z8_1 := cell_fresh z6_1 hy; have z8_2 := cell_fresh z6_2 hy; have z8_3 := cell_fresh z6_3 hy; have z8_4 := cell_fresh z6_4 hy; have z8_5 := cell_fresh z6_5 hy; have fy7_ := fresh_trans H_fy5_.out hy; have H_fy7_ := Lib.hid fy7_; clear r hy fy7_)
    | (go_at_call 19; (with_reducible refine (hfrC.out _ _ _ (H_sx.out.fresh H_fy7_.out) (H_sy.out.fresh H_fy7_.out)).mono ?_); rintro e y9_ ⟨rfl, r⟩; have hy : Fresh y7_ y9_ := r; have z10_0 := cell_fresh z8_0 hy; have z10_1 := cell_fresh z8_1 hy; have z10_2 := cell_fresh z8_2 hy; have z10_3 := cell_fresh z8_3 hy; have z10_4 := cell_fresh z8_4 hy; have z10_5 := cell_fresh z8_5 hy; have fy9_ := fresh_trans H_fy7_.out hy; have H_fy9_ := Lib.hid fy9_; clear r hy fy9_)
    | (go_at_call 19; (with_reducible refine (hfrC.out _ _ _ (H_sx.out.fresh H_fy9_.out) (H_sy.out.fresh H_fy9_.out)).mono ?_); rintro e y11_ ⟨rfl, r⟩; have hy : Fresh y9_ y11_ := r; have z12_0 := cell_fresh z10_0 hy; have z12_1 := cell_fresh z10_1 hy; have z12_2 := cell_fresh z10_2 hy; have z12_3 := cell_fresh z10_3 hy; have z12_4 := cell_fresh z10_4 hy; have z12_5 := cell_fresh z10_5 hy; have fy11_ := fresh_trans H_fy9_.out hy; have H_fy11_ := Lib.hid fy11_; clear r hy fy11_)
    | (go_at_call 21; (with_reducible refine (gvLives_any _).mono ?_); rintro e y13_ ⟨rfl, r⟩; have hy : Fresh y11_ y13_ := r; have z14_0 := cell_fresh z12_0 hy; have z14_1 := cell_fresh z12_1 hy; have z14_2 := cell_fresh z12_2 hy; have z14_3 := cell_fresh z12_3 hy; have z14_4 := cell_fresh z12_4 hy; have z14_5 := cell_fresh z12_5 hy; have fy13_ := fresh_trans H_fy11_.out hy; have H_fy13_ := Lib.hid fy13_; clear r hy fy13_))
    go_wp2
    go_ret
    exact ⟨by rfl, fresh_trans H_fw3.out H_fy13_.out⟩

end Go.Proofs.YtibaeafmgncjdaaGreatDoor
