/- The walk of FnDecCmp. Printed by gen_lwc.py. -/
import Derived.Test.YtjjolcjeiogdmaaGreatDoorK13
import Derived.Test.YtjjolcjeiogdmaaGreatDoorK31
namespace Go.Proofs.YtjjolcjeiogdmaaGreatDoor
open Go.RowKit

set_option maxRecDepth 20000 in
set_option maxHeartbeats 2000000 in
theorem FnDecCmp_out (t1 t2 : ByteArray) (x1 x2 : Int) (w : World) (h1 : t1.size ≤ 9223372036854775807) (h2 : t2.size ≤ 9223372036854775807) (h : ¬(t1.size ≤ 2147483647 ∧ t2.size ≤ 2147483647)) :
    Calls Tryz.prog 3 #[.agg #[.string t1, .int .i64 x1], .agg #[.string t2, .int .i64 x2]] w (VRet w (.bool true)) := by
  have hz1 := fun W => zzFits1_any t1 x1 W h1
  have hz2 := fun W => zzFits1_any t2 x2 W h2
  have hb : (decide (t1.size ≤ 2147483647) = true ∧ decide (t2.size ≤ 2147483647) = false) ∨ decide (t1.size ≤ 2147483647) = false := by
    by_cases k : t1.size ≤ 2147483647
    · exact .inl ⟨by simpa using k, by simp; omega⟩
    · exact .inr (by simpa using k)
  obtain ⟨g, hg⟩ : ∃ g, g = w.heap.size := ⟨_, rfl⟩
  have bx := boxes2 w #[.string t1, .int .i64 x1] #[.string t2, .int .i64 x2] 23 23 g hg
  clear h1 h2 h
  generalize decide (t1.size ≤ 2147483647) = q1 at *
  generalize decide (t2.size ≤ 2147483647) = q2 at *
  have H_bx := Lib.hid bx; clear bx
  have H_hz1 := Lib.hid hz1; clear hz1
  have H_hz2 := Lib.hid hz2; clear hz2
  rcases hb with ⟨rfl, rfl⟩ | rfl
  all_goals
    go_enter Tryz.func3, Tryz.ntmps3
    go_wp2_with (fail)
    generalize hw1 : (w.alloc _).alloc _ = w1
    rw [← hg]
    obtain ⟨d1, d2, fa⟩ := H_bx.out w1 hw1
    have k0 := row_cell d1 0
    have k1 := row_cell d1 1
    have m0 := row_cell d2 0
    have m1 := row_cell d2 1
    simp at k0 k1 m0 m1
    have H_fa := Lib.hid fa; clear fa
    have H_hw1 := Lib.hid hw1; clear hw1
    have H_d1 := Lib.hid d1; clear d1
    have H_d2 := Lib.hid d2; clear d2
    have H_hg := Lib.hid hg; clear hg
    go_wp2_with (fail)
    refine (H_hz1.out _).mono ?_
    rintro e w2 ⟨rfl, f2⟩
    have m0 := cell_fresh m0 f2
    have m1 := cell_fresh m1 f2
    have f2 := fresh_trans H_fa.out f2
    clear k0 k1
    have H_f2 := Lib.hid f2; clear f2
    go_wp2_with (fail)
  · refine (H_hz2.out _).mono ?_
    rintro e w3 ⟨rfl, f3⟩
    have f3 := fresh_trans H_f2.out f3
    clear m0 m1
    have H_f3 := Lib.hid f3; clear f3
    go_wp2_with (fail)
    go_ret
    exact ⟨rfl, H_f3.out⟩
  · go_ret
    exact ⟨rfl, H_f2.out⟩

set_option maxRecDepth 20000 in
set_option maxHeartbeats 4000000 in
theorem FnDecCmp_main (S1 S2 : List Nat) (x1 x2 : Int) (w : World) (hG : Glob w) (hS1 : ∀ c ∈ S1, c < 256) (hS2 : ∀ c ∈ S2, c < 256) (hl1 : S1.length ≤ 2147483647) (hl2 : S2.length ≤ 2147483647) (hx1 : -9223372036854775808 ≤ x1 ∧ x1 ≤ 9223372036854775807) (hx2 : -9223372036854775808 ≤ x2 ∧ x2 ≤ 9223372036854775807) :
    Calls Tryz.prog 3 #[.agg #[.string (bstr S1), .int .i64 x1], .agg #[.string (bstr S2), .int .i64 x2]] w (VRet w (.bool true)) := by
  have hz1 := fun W => zzFits1_any (bstr S1) x1 W (by rw [bstr_size]; omega)
  have hz2 := fun W => zzFits1_any (bstr S2) x2 W (by rw [bstr_size]; omega)
  rw [show decide ((bstr S1).size ≤ 2147483647) = true by rw [bstr_size]; simpa using hl1] at hz1
  rw [show decide ((bstr S2).size ≤ 2147483647) = true by rw [bstr_size]; simpa using hl2] at hz2
  have har := fun W => arTwo_any S1 S2 x1 x2 W hS1 hS2 hl1 hl2 hx1 hx2
  generalize bstr S1 = t1 at *
  generalize bstr S2 = t2 at *
  clear hS1 hS2 hl1 hl2 hx1 hx2
  obtain ⟨g, hg⟩ : ∃ g, g = w.heap.size := ⟨_, rfl⟩
  have bx := boxes2 w #[.string t1, .int .i64 x1] #[.string t2, .int .i64 x2] 23 23 g hg
  have H_bx := Lib.hid bx; clear bx
  have H_hz1 := Lib.hid hz1; clear hz1
  have H_hz2 := Lib.hid hz2; clear hz2
  have H_har := Lib.hid har; clear har
  have H_hG := Lib.hid hG; clear hG
  go_enter Tryz.func3, Tryz.ntmps3
  go_wp2_with (fail)
  generalize hw1 : (w.alloc _).alloc _ = w1
  rw [← hg]
  obtain ⟨d1, d2, fa⟩ := H_bx.out w1 hw1
  have k0 := row_cell d1 0
  have k1 := row_cell d1 1
  have m0 := row_cell d2 0
  have m1 := row_cell d2 1
  simp at k0 k1 m0 m1
  have H_fa := Lib.hid fa; clear fa
  have H_hw1 := Lib.hid hw1; clear hw1
  have H_d1 := Lib.hid d1; clear d1
  have H_d2 := Lib.hid d2; clear d2
  have H_hg := Lib.hid hg; clear hg
  go_wp2_with (fail)
  refine (H_hz1.out _).mono ?_
  rintro e w2 ⟨rfl, f2⟩
  have m0 := cell_fresh m0 f2
  have m1 := cell_fresh m1 f2
  clear k0 k1
  have H_f2 := Lib.hid f2; clear f2
  go_wp2_with (fail)
  refine (H_hz2.out _).mono ?_
  rintro e w3 ⟨rfl, f3⟩
  clear m0 m1
  have f13 := fresh_trans H_f2.out f3
  have d1 := row_fresh H_d1.out f13
  have d2 := row_fresh H_d2.out f13
  have fa := fresh_trans H_fa.out f13
  clear H_d1 H_d2 H_fa H_f2 f3 f13
  have k0 := row_cell d1 0
  have k1 := row_cell d1 1
  have m0 := row_cell d2 0
  have m1 := row_cell d2 1
  simp at k0 k1 m0 m1
  have H_d1 := Lib.hid d1; clear d1
  have H_d2 := Lib.hid d2; clear d2
  have H_fa := Lib.hid fa; clear fa
  go_wp2_with (fail)
  refine (H_har.out _).mono ?_
  rintro e w4 ⟨z1, e1, z2, e2, u1, u2, rfl, q1, q2, q4, q5, s1, s2, f4⟩
  clear k0 k1 m0 m1
  have d1 := row_fresh H_d1.out f4
  have d2 := row_fresh H_d2.out f4
  have fa := fresh_trans H_fa.out f4
  clear H_d1 H_d2 H_fa f4
  have hb1 := dnum_lt q1 q2.2
  have hb2 := dnum_lt q4 q5.2
  have hc1 := dden_le q2.1
  have hc2 := dden_le q5.1
  have hop := fun W (k1 : SFr W u1 (dnum z1 e1) (dden e1)) (k2 : SFr W u2 (dnum z2 e2) (dden e2)) => FracCmp_any u1 u2 _ _ _ _ W k1 k2 (spow_of_ten hb1 (by omega)) (spow_of_ten hb2 (by omega)) (spow_of_ten (Nat.lt_of_le_of_lt hc1 (Nat.pow_lt_pow_right (n := 61) (by omega) (by omega))) (by omega)) (spow_of_ten (Nat.lt_of_le_of_lt hc2 (Nat.pow_lt_pow_right (n := 61) (by omega) (by omega))) (by omega))
  obtain ⟨m, hm⟩ : ∃ m, m = min e1 e2 := ⟨_, rfl⟩
  have hfr := dcmp_frac (z1 := z1) (z2 := z2) (show m ≤ e1 by omega) (show m ≤ e2 by omega)
  obtain ⟨c, hcc⟩ : ∃ c, cmpZ (z1 * ((10 ^ (e1 - m).toNat : Nat) : Int)) (z2 * ((10 ^ (e2 - m).toNat : Nat) : Int)) = c := ⟨_, rfl⟩
  have hcl := fun W (hW : Fresh w W) => DecCmp_fit z1 z2 e1 e2 m c W (H_hG.out.fresh hW) q1 q4 q2 q5 hm hcc
  have hco := fun W (hW : Fresh w W) => DecOrders_fit z1 z2 e1 e2 m c W (H_hG.out.fresh hW) q1 q4 q2 q5 hm hcc
  have hw3 : c = -1 ∨ c = 0 ∨ c = 1 := by rw [← hcc]; exact cmpZ_ways _ _
  rw [hcc] at hfr
  simp only [hfr] at hop
  clear q1 q2 q4 q5 hb1 hb2 hc1 hc2 hfr hm hcc
  unfold dd at hcl hco
  have hs1 := s1
  have hs2 := s2
  obtain ⟨na, va, la, da, dla, rfl, xa1, xa2, xa3, xa4, xa5, xa6⟩ := s1
  obtain ⟨nb, vb, lb, db, dlb, rfl, xb1, xb2, xb3, xb4, xb5, xb6⟩ := s2
  obtain ⟨aa, ca, rfl⟩ := xa1.form
  obtain ⟨ab, cb, rfl⟩ := xb1.form
  obtain ⟨ac, cc, rfl⟩ := xa5.form
  obtain ⟨ad, cd, rfl⟩ := xb5.form
  clear xa1 xa2 xa3 xa4 xa5 xa6 xb1 xb2 xb3 xb4 xb5 xb6
  generalize la.length = ln1 at *
  generalize lb.length = ln2 at *
  generalize dla.length = ln3 at *
  generalize dlb.length = ln4 at *
  clear la lb dla dlb
  generalize bstr (wdig z1) = y1 at *
  generalize bstr (wdig z2) = y2 at *
  obtain ⟨h, hh⟩ : ∃ h, h = w4.heap.size := ⟨_, rfl⟩
  have ba := boxes2 w4 #[.bool false, .slice none 0 0, .slice none 0 0] #[.bool false, .slice none 0 0, .slice none 0 0] 30 30 h hh
  clear H_hz1 H_hz2 H_har
  generalize dnum z1 e1 = N1 at *
  generalize dnum z2 e2 = N2 at *
  generalize dden e1 = D1 at *
  generalize dden e2 = D2 at *
  have H_d1 := Lib.hid d1; clear d1
  have H_d2 := Lib.hid d2; clear d2
  have H_fa := Lib.hid fa; clear fa
  have H_hcl := Lib.hid hcl; clear hcl
  have H_hco := Lib.hid hco; clear hco
  have H_hop := Lib.hid hop; clear hop
  have H_hw3 := Lib.hid hw3; clear hw3
  have H_hh := Lib.hid hh; clear hh
  have H_ba := Lib.hid ba; clear ba
  have H_hs1 := Lib.hid hs1; clear hs1
  have H_hs2 := Lib.hid hs2; clear hs2
  dsimp only
  refine (‹∀ (a : Act) (w_1 : World), wpList _ _ _ _ a w_1 → _›) _ _ ?_
  refine wl_value rfl (v := ?v1) (w' := w4) ?y1 ?r1
  case y1 => (go_simp; try with_reducible rfl)
  try simp only [Act.put, yD, yE, yF]
  refine wl_value rfl (v := ?v2) (w' := w4) ?y2 ?r2
  case y2 => (go_simp; try with_reducible rfl)
  try simp only [Act.put, yD, yE, yF]
  refine wl_value rfl (v := ?v3) (w' := w4) ?y3 ?r3
  case y3 => (go_simp; try with_reducible rfl)
  try simp only [Act.put, yD, yE, yF]
  refine wl_value rfl (v := ?v4) (w' := w4) ?y4 ?r4
  case y4 => (go_simp; try with_reducible rfl)
  try simp only [Act.put, yD, yE, yF]
  refine wl_value rfl (v := ?v5) (w' := w4) ?y5 ?r5
  case y5 => (go_simp; try with_reducible rfl)
  try simp only [Act.put, yD, yE, yF]
  refine wl_value rfl (v := .pointer (some ⟨h, 0, none⟩)) (w' := w4.alloc (.cells #[.bool false, .slice none 0 0, .slice none 0 0] 30 (0, 0))) ?y6 ?r6
  case y6 => (have hh := H_hh.out; go_simp)
  try simp only [Act.put, yD, yE, yF]
  refine wl_value rfl (v := .pointer (some ⟨h + 1, 0, none⟩)) (w' := (w4.alloc (.cells #[.bool false, .slice none 0 0, .slice none 0 0] 30 (0, 0))).alloc (.cells #[.bool false, .slice none 0 0, .slice none 0 0] 30 (0, 0))) ?y7 ?r7
  case y7 => (have hh := H_hh.out; go_simp)
  try simp only [Act.put, yD, yE, yF]
  generalize hw5 : (w4.alloc _).alloc _ = w5
  obtain ⟨r5, r6, f5⟩ := H_ba.out w5 hw5
  have hlt1 := lt_of_row H_d1.out
  have hlt2 := lt_of_row H_d2.out
  rw [← H_hh.out] at hlt1 hlt2
  have d1 := row_fresh H_d1.out f5
  have d2 := row_fresh H_d2.out f5
  have fa := fresh_trans H_fa.out f5
  clear H_d1 H_d2 H_fa
  have hs1 := H_hs1.out.fresh f5
  have hs2 := H_hs2.out.fresh f5
  clear H_hs1 H_hs2
  have c1 := d1
  have c2 := d2
  have c3 := r5
  have c4 := r6
  have H_d1 := Lib.hid d1; clear d1
  have H_d2 := Lib.hid d2; clear d2
  have H_r5 := Lib.hid r5; clear r5
  have H_r6 := Lib.hid r6; clear r6
  have H_fa := Lib.hid fa; clear fa
  have H_hw5 := Lib.hid hw5; clear hw5
  have H_f5 := Lib.hid f5; clear f5
  have H_hlt1 := Lib.hid hlt1; clear hlt1
  have H_hlt2 := Lib.hid hlt2; clear hlt2
  have H_hs1 := Lib.hid hs1; clear hs1
  have H_hs2 := Lib.hid hs2; clear hs2
  have H_c1 := Lib.hid c1; clear c1
  have H_c2 := Lib.hid c2; clear c2
  have H_c3 := Lib.hid c3; clear c3
  have H_c4 := Lib.hid c4; clear c4
  obtain ⟨W8_, hW8⟩ : ∃ W, W = ((w5.setCell ⟨g, 0, none⟩ (.string y1)).setCell ⟨g, 1, none⟩ (.int .i64 e1)) := ⟨_, rfl⟩
  refine wl_skip rfl (w' := W8_) ?y8 ?r8
  case y8 => (rw [hW8]; have p0 := row_cell H_d1.out 0; have p1 := row_cell H_d1.out 1; simp at p0 p1; have q0 : w5.frozen? ⟨g, 0, none⟩ = false := frozen_of_row _ _ _ _ _ H_d1.out; have q1 : w5.frozen? ⟨g, 1, none⟩ = false := frozen_of_row _ _ _ _ _ H_d1.out; go_simp; try with_reducible rfl)
  try simp only [Act.put]
  have d1 : W8_.heap[g]? = some (.cells #[.string y1, .int .i64 e1] 23 (0, 0)) := by rw [hW8]; exact (row_set (row_set H_d1.out))
  have d2 : W8_.heap[g + 1]? = some (.cells #[.string t2, .int .i64 x2] 23 (0, 0)) := by rw [hW8]; exact (row_set_ne (by have := H_hlt1.out; have := H_hlt2.out; omega) (row_set_ne (by have := H_hlt1.out; have := H_hlt2.out; omega) H_d2.out))
  have r5 : W8_.heap[h]? = some (.cells #[.bool false, .slice none 0 0, .slice none 0 0] 30 (0, 0)) := by rw [hW8]; exact (row_set_ne (by have := H_hlt1.out; have := H_hlt2.out; omega) (row_set_ne (by have := H_hlt1.out; have := H_hlt2.out; omega) H_r5.out))
  have r6 : W8_.heap[h + 1]? = some (.cells #[.bool false, .slice none 0 0, .slice none 0 0] 30 (0, 0)) := by rw [hW8]; exact (row_set_ne (by have := H_hlt1.out; have := H_hlt2.out; omega) (row_set_ne (by have := H_hlt1.out; have := H_hlt2.out; omega) H_r6.out))
  have hf8 : Fresh w W8_ := by
    rw [hW8]
    have h1 := H_hg.out; have h2 := H_hlt1.out; have h3 := H_hlt2.out
    exact (H_fa.out.setCell (p := ⟨g, 0, none⟩) (fun hk => by change g < w.heap.size at hk; omega) _).setCell (p := ⟨g, 1, none⟩) (fun hk => by change g < w.heap.size at hk; omega) _
  clear H_d1 H_d2 H_r5 H_r6 H_fa
  have fa := hf8
  clear hf8
  have hS8 := hW8
  clear hW8
  have H_d1 := Lib.hid d1; clear d1
  have H_d2 := Lib.hid d2; clear d2
  have H_r5 := Lib.hid r5; clear r5
  have H_r6 := Lib.hid r6; clear r6
  have H_fa := Lib.hid fa; clear fa
  have H_hS8 := Lib.hid hS8; clear hS8
  obtain ⟨W9_, hW9⟩ : ∃ W, W = ((W8_.setCell ⟨g + 1, 0, none⟩ (.string y2)).setCell ⟨g + 1, 1, none⟩ (.int .i64 e2)) := ⟨_, rfl⟩
  refine wl_skip rfl (w' := W9_) ?y9 ?r9
  case y9 => (rw [hW9]; have p0 := row_cell H_d2.out 0; have p1 := row_cell H_d2.out 1; simp at p0 p1; have q0 : W8_.frozen? ⟨g + 1, 0, none⟩ = false := frozen_of_row _ _ _ _ _ H_d2.out; have q1 : W8_.frozen? ⟨g + 1, 1, none⟩ = false := frozen_of_row _ _ _ _ _ H_d2.out; go_simp; try with_reducible rfl)
  try simp only [Act.put]
  have d1 : W9_.heap[g]? = some (.cells #[.string y1, .int .i64 e1] 23 (0, 0)) := by rw [hW9]; exact (row_set_ne (by have := H_hlt1.out; have := H_hlt2.out; omega) (row_set_ne (by have := H_hlt1.out; have := H_hlt2.out; omega) H_d1.out))
  have d2 : W9_.heap[g + 1]? = some (.cells #[.string y2, .int .i64 e2] 23 (0, 0)) := by rw [hW9]; exact (row_set (row_set H_d2.out))
  have r5 : W9_.heap[h]? = some (.cells #[.bool false, .slice none 0 0, .slice none 0 0] 30 (0, 0)) := by rw [hW9]; exact (row_set_ne (by have := H_hlt1.out; have := H_hlt2.out; omega) (row_set_ne (by have := H_hlt1.out; have := H_hlt2.out; omega) H_r5.out))
  have r6 : W9_.heap[h + 1]? = some (.cells #[.bool false, .slice none 0 0, .slice none 0 0] 30 (0, 0)) := by rw [hW9]; exact (row_set_ne (by have := H_hlt1.out; have := H_hlt2.out; omega) (row_set_ne (by have := H_hlt1.out; have := H_hlt2.out; omega) H_r6.out))
  have hf9 : Fresh w W9_ := by
    rw [hW9]
    have h1 := H_hg.out; have h2 := H_hlt1.out; have h3 := H_hlt2.out
    exact (H_fa.out.setCell (p := ⟨g + 1, 0, none⟩) (fun hk => by change g + 1 < w.heap.size at hk; omega) _).setCell (p := ⟨g + 1, 1, none⟩) (fun hk => by change g + 1 < w.heap.size at hk; omega) _
  clear H_d1 H_d2 H_r5 H_r6 H_fa
  have fa := hf9
  clear hf9
  have hS9 := hW9
  clear hW9
  have H_d1 := Lib.hid d1; clear d1
  have H_d2 := Lib.hid d2; clear d2
  have H_r5 := Lib.hid r5; clear r5
  have H_r6 := Lib.hid r6; clear r6
  have H_fa := Lib.hid fa; clear fa
  have H_hS9 := Lib.hid hS9; clear hS9
  obtain ⟨W10_, hW10⟩ : ∃ W, W = (((W9_.setCell ⟨h, 0, none⟩ (.bool na)).setCell ⟨h, 1, none⟩ (.slice aa ln1 ca)).setCell ⟨h, 2, none⟩ (.slice ac ln3 cc)) := ⟨_, rfl⟩
  refine wl_skip rfl (w' := W10_) ?y10 ?r10
  case y10 => (rw [hW10]; have p0 := row_cell H_r5.out 0; have p1 := row_cell H_r5.out 1; have p2 := row_cell H_r5.out 2; simp at p0 p1 p2; have q0 : W9_.frozen? ⟨h, 0, none⟩ = false := frozen_of_row _ _ _ _ _ H_r5.out; have q1 : W9_.frozen? ⟨h, 1, none⟩ = false := frozen_of_row _ _ _ _ _ H_r5.out; have q2 : W9_.frozen? ⟨h, 2, none⟩ = false := frozen_of_row _ _ _ _ _ H_r5.out; go_simp; try with_reducible rfl)
  try simp only [Act.put]
  have d1 : W10_.heap[g]? = some (.cells #[.string y1, .int .i64 e1] 23 (0, 0)) := by rw [hW10]; exact (row_set_ne (by have := H_hlt1.out; have := H_hlt2.out; omega) (row_set_ne (by have := H_hlt1.out; have := H_hlt2.out; omega) (row_set_ne (by have := H_hlt1.out; have := H_hlt2.out; omega) H_d1.out)))
  have d2 : W10_.heap[g + 1]? = some (.cells #[.string y2, .int .i64 e2] 23 (0, 0)) := by rw [hW10]; exact (row_set_ne (by have := H_hlt1.out; have := H_hlt2.out; omega) (row_set_ne (by have := H_hlt1.out; have := H_hlt2.out; omega) (row_set_ne (by have := H_hlt1.out; have := H_hlt2.out; omega) H_d2.out)))
  have r5 : W10_.heap[h]? = some (.cells #[.bool na, .slice aa ln1 ca, .slice ac ln3 cc] 30 (0, 0)) := by rw [hW10]; exact (row_set (row_set (row_set H_r5.out)))
  have r6 : W10_.heap[h + 1]? = some (.cells #[.bool false, .slice none 0 0, .slice none 0 0] 30 (0, 0)) := by rw [hW10]; exact (row_set_ne (by have := H_hlt1.out; have := H_hlt2.out; omega) (row_set_ne (by have := H_hlt1.out; have := H_hlt2.out; omega) (row_set_ne (by have := H_hlt1.out; have := H_hlt2.out; omega) H_r6.out)))
  have hf10 : Fresh w W10_ := by
    rw [hW10]
    have h1 := H_hg.out; have h2 := H_hlt1.out; have h3 := H_hlt2.out
    exact Fresh.set3 H_fa.out (by omega)
  clear H_d1 H_d2 H_r5 H_r6 H_fa
  have fa := hf10
  clear hf10
  have hS10 := hW10
  clear hW10
  have H_d1 := Lib.hid d1; clear d1
  have H_d2 := Lib.hid d2; clear d2
  have H_r5 := Lib.hid r5; clear r5
  have H_r6 := Lib.hid r6; clear r6
  have H_fa := Lib.hid fa; clear fa
  have H_hS10 := Lib.hid hS10; clear hS10
  obtain ⟨W11_, hW11⟩ : ∃ W, W = (((W10_.setCell ⟨h + 1, 0, none⟩ (.bool nb)).setCell ⟨h + 1, 1, none⟩ (.slice ab ln2 cb)).setCell ⟨h + 1, 2, none⟩ (.slice ad ln4 cd)) := ⟨_, rfl⟩
  refine wl_skip rfl (w' := W11_) ?y11 ?r11
  case y11 => (rw [hW11]; have p0 := row_cell H_r6.out 0; have p1 := row_cell H_r6.out 1; have p2 := row_cell H_r6.out 2; simp at p0 p1 p2; have q0 : W10_.frozen? ⟨h + 1, 0, none⟩ = false := frozen_of_row _ _ _ _ _ H_r6.out; have q1 : W10_.frozen? ⟨h + 1, 1, none⟩ = false := frozen_of_row _ _ _ _ _ H_r6.out; have q2 : W10_.frozen? ⟨h + 1, 2, none⟩ = false := frozen_of_row _ _ _ _ _ H_r6.out; go_simp; try with_reducible rfl)
  try simp only [Act.put]
  have d1 : W11_.heap[g]? = some (.cells #[.string y1, .int .i64 e1] 23 (0, 0)) := by rw [hW11]; exact (row_set_ne (by have := H_hlt1.out; have := H_hlt2.out; omega) (row_set_ne (by have := H_hlt1.out; have := H_hlt2.out; omega) (row_set_ne (by have := H_hlt1.out; have := H_hlt2.out; omega) H_d1.out)))
  have d2 : W11_.heap[g + 1]? = some (.cells #[.string y2, .int .i64 e2] 23 (0, 0)) := by rw [hW11]; exact (row_set_ne (by have := H_hlt1.out; have := H_hlt2.out; omega) (row_set_ne (by have := H_hlt1.out; have := H_hlt2.out; omega) (row_set_ne (by have := H_hlt1.out; have := H_hlt2.out; omega) H_d2.out)))
  have r5 : W11_.heap[h]? = some (.cells #[.bool na, .slice aa ln1 ca, .slice ac ln3 cc] 30 (0, 0)) := by rw [hW11]; exact (row_set_ne (by have := H_hlt1.out; have := H_hlt2.out; omega) (row_set_ne (by have := H_hlt1.out; have := H_hlt2.out; omega) (row_set_ne (by have := H_hlt1.out; have := H_hlt2.out; omega) H_r5.out)))
  have r6 : W11_.heap[h + 1]? = some (.cells #[.bool nb, .slice ab ln2 cb, .slice ad ln4 cd] 30 (0, 0)) := by rw [hW11]; exact (row_set (row_set (row_set H_r6.out)))
  have hf11 : Fresh w W11_ := by
    rw [hW11]
    have h1 := H_hg.out; have h2 := H_hlt1.out; have h3 := H_hlt2.out
    exact Fresh.set3 H_fa.out (by omega)
  clear H_d1 H_d2 H_r5 H_r6 H_fa
  have fa := hf11
  clear hf11
  have hS11 := hW11
  clear hW11
  have H_d1 := Lib.hid d1; clear d1
  have H_d2 := Lib.hid d2; clear d2
  have H_r5 := Lib.hid r5; clear r5
  have H_r6 := Lib.hid r6; clear r6
  have H_fa := Lib.hid fa; clear fa
  have H_hS11 := Lib.hid hS11; clear hS11
  obtain ⟨-, -, -, -, hsf, -⟩ := four_rows (by omega) (by have := H_hlt1.out; omega) (by have := H_hlt1.out; omega) (by have := H_hlt2.out; omega) (by have := H_hlt2.out; omega) (by omega) H_c1.out H_c2.out H_c3.out H_c4.out _ _ _ _ _ _ _ _ _ _ (by intro n; simp [wd]) (by intro n; simp [wd]) (by intro n; simp [wd]) (by intro n; simp [wd]) W11_ (by rw [H_hS11.out, H_hS10.out, H_hS9.out, H_hS8.out])
  have hs1 := hsf _ _ _ H_hs1.out
  have hs2 := hsf _ _ _ H_hs2.out
  clear H_hs1 H_hs2 hsf H_c1 H_c2 H_c3 H_c4 H_hS8 H_hS9 H_hS10 H_hS11 H_hw5 H_f5 H_ba
  have k0 := row_cell H_d1.out 0
  have k1 := row_cell H_d1.out 1
  have k2 := row_cell H_d2.out 0
  have k3 := row_cell H_d2.out 1
  simp at k0 k1 k2 k3
  have H_hs1 := Lib.hid hs1; clear hs1
  have H_hs2 := Lib.hid hs2; clear hs2
  go_wp2_with (fail)
  refine (H_hcl.out _ H_fa.out).mono ?_
  rintro e w12 ⟨rfl, f12⟩
  have k0 := cell_fresh k0 f12
  have k1 := cell_fresh k1 f12
  have k2 := cell_fresh k2 f12
  have k3 := cell_fresh k3 f12
  have fa := fresh_trans H_fa.out f12
  clear H_fa
  have H_f12 := Lib.hid f12; clear f12
  have H_fa := Lib.hid fa; clear fa
  go_wp2_with (fail)
  refine (H_hco.out _ H_fa.out).mono ?_
  rintro e w13 ⟨rfl, f13⟩
  clear k0 k1 k2 k3
  have f23 := fresh_trans H_f12.out f13
  have r5 := row_fresh H_r5.out f23
  have r6 := row_fresh H_r6.out f23
  have hs1 := H_hs1.out.fresh f23
  have hs2 := H_hs2.out.fresh f23
  have fa := fresh_trans H_fa.out f13
  clear H_r5 H_r6 H_hs1 H_hs2 H_fa
  have k0 := row_cell r5 0
  have k1 := row_cell r5 1
  have k2 := row_cell r5 2
  have k3 := row_cell r6 0
  have k4 := row_cell r6 1
  have k5 := row_cell r6 2
  simp at k0 k1 k2 k3 k4 k5
  have H_f13 := Lib.hid f13; clear f13
  have H_f23 := Lib.hid f23; clear f23
  have H_r5 := Lib.hid r5; clear r5
  have H_r6 := Lib.hid r6; clear r6
  have H_hs1 := Lib.hid hs1; clear hs1
  have H_hs2 := Lib.hid hs2; clear hs2
  have H_fa := Lib.hid fa; clear fa
  go_wp2_with (fail)
  refine (H_hop.out _ H_hs1.out H_hs2.out).mono ?_
  rintro e w14 ⟨rfl, f14⟩
  clear k0 k1 k2 k3 k4 k5
  have fa := fresh_trans H_fa.out f14
  clear H_fa
  have hw3 := H_hw3.out
  clear H_hw3 H_hcl H_hco H_hop
  have H_f14 := Lib.hid f14; clear f14
  have H_fa := Lib.hid fa; clear fa
  rcases hw3 with rfl | rfl | rfl
  all_goals
    go_wp2_with (fail)
    go_ret
    exact ⟨rfl, H_fa.out⟩

end Go.Proofs.YtjjolcjeiogdmaaGreatDoor
