/- The walk of FnDecAdd. Printed by gen_lwd.py Add. -/
import Derived.Test.YtjjolcjeiogdmaaGreatDoorTie
import Derived.Test.YtjjolcjeiogdmaaGreatDoorCards
import Derived.SevenTiedAt
import Derived.Test.YtjjolcjeiogdmaaGreatDoorK7
import Derived.Test.YtjjolcjeiogdmaaGreatDoorK9
import Derived.Test.YtjjolcjeiogdmaaGreatDoorK13
import Derived.Test.YtjjolcjeiogdmaaGreatDoorK21
import Derived.Test.YtjjolcjeiogdmaaGreatDoorK22
namespace Go.Proofs.YtjjolcjeiogdmaaGreatDoor
open Go.RowKit

set_option maxRecDepth 20000 in
set_option maxHeartbeats 2000000 in
theorem FnDecAdd_out (t1 t2 : ByteArray) (x1 x2 : Int) (w : World) (h1 : t1.size ≤ 9223372036854775807) (h2 : t2.size ≤ 9223372036854775807) (h : ¬(t1.size ≤ 2147483647 ∧ t2.size ≤ 2147483647)) :
    Calls Tryz.prog 5 #[.agg #[.string t1, .int .i64 x1], .agg #[.string t2, .int .i64 x2]] w (VRet w (.bool true)) := by
  have hz1 := fun W => zzFits1_any t1 x1 W h1
  have hz2 := fun W => zzFits1_any t2 x2 W h2
  have hb : (decide (t1.size ≤ 2147483647) = true ∧ decide (t2.size ≤ 2147483647) = false) ∨ decide (t1.size ≤ 2147483647) = false := by
    by_cases k : t1.size ≤ 2147483647
    · exact .inl ⟨by simpa using k, by simp; omega⟩
    · exact .inr (by simpa using k)
  obtain ⟨g, hg⟩ : ∃ g, g = w.heap.size := ⟨_, rfl⟩
  have bx := boxes2 w #[.string t1, .int .i64 x1] #[.string t2, .int .i64 x2] 23 23 g hg
  clear h1 h2 h
  generalize decide (t1.size ≤ 2147483647) = q1 at *
  generalize decide (t2.size ≤ 2147483647) = q2 at *
  have H_bx := Lib.hid bx; clear bx
  have H_hz1 := Lib.hid hz1; clear hz1
  have H_hz2 := Lib.hid hz2; clear hz2
  rcases hb with ⟨rfl, rfl⟩ | rfl
  all_goals
    go_enter Tryz.func5, Tryz.ntmps5
    go_wp2_with (fail)
    generalize hw1 : (w.alloc _).alloc _ = w1
    rw [← hg]
    obtain ⟨d1, d2, fa⟩ := H_bx.out w1 hw1
    have k0 := row_cell d1 0
    have k1 := row_cell d1 1
    have m0 := row_cell d2 0
    have m1 := row_cell d2 1
    simp at k0 k1 m0 m1
    have H_fa := Lib.hid fa; clear fa
    have H_hw1 := Lib.hid hw1; clear hw1
    have H_d1 := Lib.hid d1; clear d1
    have H_d2 := Lib.hid d2; clear d2
    have H_hg := Lib.hid hg; clear hg
    go_wp2_with (fail)
    refine (H_hz1.out _).mono ?_
    rintro e w2 ⟨rfl, f2⟩
    have m0 := cell_fresh m0 f2
    have m1 := cell_fresh m1 f2
    have f2 := fresh_trans H_fa.out f2
    clear k0 k1
    have H_f2 := Lib.hid f2; clear f2
    go_wp2_with (fail)
  · refine (H_hz2.out _).mono ?_
    rintro e w3 ⟨rfl, f3⟩
    have f3 := fresh_trans H_f2.out f3
    clear m0 m1
    have H_f3 := Lib.hid f3; clear f3
    go_wp2_with (fail)
    go_ret
    exact ⟨rfl, H_f3.out⟩
  · go_ret
    exact ⟨rfl, H_f2.out⟩

set_option maxRecDepth 20000 in
set_option maxHeartbeats 4000000 in
theorem FnDecAdd_main (S1 S2 : List Nat) (x1 x2 : Int) (w : World) (hG : Glob w) (hS1 : ∀ c ∈ S1, c < 256) (hS2 : ∀ c ∈ S2, c < 256) (hl1 : S1.length ≤ 2147483647) (hl2 : S2.length ≤ 2147483647) (hx1 : -9223372036854775808 ≤ x1 ∧ x1 ≤ 9223372036854775807) (hx2 : -9223372036854775808 ≤ x2 ∧ x2 ≤ 9223372036854775807) :
    Calls Tryz.prog 5 #[.agg #[.string (bstr S1), .int .i64 x1], .agg #[.string (bstr S2), .int .i64 x2]] w (VRet w (.bool true)) := by
  have hz1 := fun W => zzFits1_any (bstr S1) x1 W (by rw [bstr_size]; omega)
  have hz2 := fun W => zzFits1_any (bstr S2) x2 W (by rw [bstr_size]; omega)
  rw [show decide ((bstr S1).size ≤ 2147483647) = true by rw [bstr_size]; simpa using hl1] at hz1
  rw [show decide ((bstr S2).size ≤ 2147483647) = true by rw [bstr_size]; simpa using hl2] at hz2
  have har := fun W => arTwo_any S1 S2 x1 x2 W hS1 hS2 hl1 hl2 hx1 hx2
  generalize bstr S1 = t1 at *
  generalize bstr S2 = t2 at *
  clear hS1 hS2 hl1 hl2 hx1 hx2
  obtain ⟨g, hg⟩ : ∃ g, g = w.heap.size := ⟨_, rfl⟩
  have bx := boxes2 w #[.string t1, .int .i64 x1] #[.string t2, .int .i64 x2] 23 23 g hg
  have H_bx := Lib.hid bx; clear bx
  have H_hz1 := Lib.hid hz1; clear hz1
  have H_hz2 := Lib.hid hz2; clear hz2
  have H_har := Lib.hid har; clear har
  have H_hG := Lib.hid hG; clear hG
  go_enter Tryz.func5, Tryz.ntmps5
  go_wp2_with (fail)
  generalize hw1 : (w.alloc _).alloc _ = w1
  rw [← hg]
  obtain ⟨d1, d2, fa⟩ := H_bx.out w1 hw1
  have k0 := row_cell d1 0
  have k1 := row_cell d1 1
  have m0 := row_cell d2 0
  have m1 := row_cell d2 1
  simp at k0 k1 m0 m1
  have H_fa := Lib.hid fa; clear fa
  have H_hw1 := Lib.hid hw1; clear hw1
  have H_d1 := Lib.hid d1; clear d1
  have H_d2 := Lib.hid d2; clear d2
  have H_hg := Lib.hid hg; clear hg
  go_wp2_with (fail)
  refine (H_hz1.out _).mono ?_
  rintro e w2 ⟨rfl, f2⟩
  have m0 := cell_fresh m0 f2
  have m1 := cell_fresh m1 f2
  clear k0 k1
  have H_f2 := Lib.hid f2; clear f2
  go_wp2_with (fail)
  refine (H_hz2.out _).mono ?_
  rintro e w3 ⟨rfl, f3⟩
  clear m0 m1
  have f13 := fresh_trans H_f2.out f3
  have d1 := row_fresh H_d1.out f13
  have d2 := row_fresh H_d2.out f13
  have fa := fresh_trans H_fa.out f13
  clear H_d1 H_d2 H_fa H_f2 f3 f13
  have k0 := row_cell d1 0
  have k1 := row_cell d1 1
  have m0 := row_cell d2 0
  have m1 := row_cell d2 1
  simp at k0 k1 m0 m1
  have H_d1 := Lib.hid d1; clear d1
  have H_d2 := Lib.hid d2; clear d2
  have H_fa := Lib.hid fa; clear fa
  go_wp2_with (fail)
  refine (H_har.out _).mono ?_
  rintro e w4 ⟨z1, e1, z2, e2, u1, u2, rfl, q1, q2, q4, q5, s1, s2, f4⟩
  clear k0 k1 m0 m1
  have d1 := row_fresh H_d1.out f4
  have d2 := row_fresh H_d2.out f4
  have fa := fresh_trans H_fa.out f4
  clear H_d1 H_d2 H_fa f4
  have hcl := fun W (hW : Fresh w W) => DecAdd_fit z1 z2 e1 e2 _ W (H_hG.out.fresh hW) q1 q4 q2 q5 rfl
  have hb1 := dnum_lt q1 q2.2
  have hb2 := dnum_lt q4 q5.2
  have hc1 := dden_le q2.1
  have hc2 := dden_le q5.1
  have hop := fun W (k1 : SFr W u1 (dnum z1 e1) (dden e1)) (k2 : SFr W u2 (dnum z2 e2) (dden e2)) => FracAdd_any u1 u2 _ _ _ _ W k1 k2 (spow_of_ten hb1 (by omega)) (spow_of_ten hb2 (by omega)) (spow_of_ten (Nat.lt_of_le_of_lt hc1 (Nat.pow_lt_pow_right (n := 61) (by omega) (by omega))) (by omega)) (spow_of_ten (Nat.lt_of_le_of_lt hc2 (Nat.pow_lt_pow_right (n := 61) (by omega) (by omega))) (by omega))
  obtain ⟨m, hm⟩ : ∃ m, m = min e1 e2 := ⟨_, rfl⟩
  rw [← hm] at hcl
  have hfr := dsum_frac (z1 := z1) (z2 := z2) (show m ≤ e1 by omega) (show m ≤ e2 by omega)
  have hzl := dadd_lt (dscaled_lt q1 (show e1 - m ≤ 120 by omega)) (dscaled_lt q4 (show e2 - m ≤ 120 by omega))
  generalize z1 * ((10 ^ (e1 - m).toNat : Nat) : Int) + z2 * ((10 ^ (e2 - m).toNat : Nat) : Int) = zr at *
  have hsy := fun W x (hx : SFr W x (dnum z1 e1 * (dden e2 : Int) + dnum z2 e2 * (dden e1 : Int)) (dden e1 * dden e2)) => Says_any zr m _ _ x W (Nat.le_trans (wdig_len_le hzl (by omega)) (by omega)) (spow_of_ten hzl (by omega)) (by omega) hx
    (spow_of_ten (dnum_lt hzl (by omega)) (by omega)) (spow_of_ten (fsum_lt hb1 hb2 hc1 hc2) (by omega)) (spow_of_ten (Nat.lt_of_le_of_lt (dden_le (show -60 ≤ m by omega)) (Nat.pow_lt_pow_right (n := 61) (by omega) (by omega))) (by omega)) (spow_of_ten (fden_lt hc1 hc2) (by omega)) hfr
  clear q1 q2 q4 q5 hb1 hb2 hc1 hc2 hzl hfr hm
  unfold dd at hcl
  have hs1 := s1
  have hs2 := s2
  obtain ⟨na, va, la, da, dla, rfl, xa1, xa2, xa3, xa4, xa5, xa6⟩ := s1
  obtain ⟨nb, vb, lb, db, dlb, rfl, xb1, xb2, xb3, xb4, xb5, xb6⟩ := s2
  obtain ⟨aa, ca, rfl⟩ := xa1.form
  obtain ⟨ab, cb, rfl⟩ := xb1.form
  obtain ⟨ac, cc, rfl⟩ := xa5.form
  obtain ⟨ad, cd, rfl⟩ := xb5.form
  clear xa1 xa2 xa3 xa4 xa5 xa6 xb1 xb2 xb3 xb4 xb5 xb6
  generalize la.length = ln1 at *
  generalize lb.length = ln2 at *
  generalize dla.length = ln3 at *
  generalize dlb.length = ln4 at *
  clear la lb dla dlb
  generalize bstr (wdig z1) = y1 at *
  generalize bstr (wdig z2) = y2 at *
  generalize bstr (wdig zr) = yr at *
  obtain ⟨h, hh⟩ : ∃ h, h = w4.heap.size := ⟨_, rfl⟩
  have ba := boxes2 w4 #[.bool false, .slice none 0 0, .slice none 0 0] #[.bool false, .slice none 0 0, .slice none 0 0] 30 30 h hh
  clear H_hz1 H_hz2 H_har
  generalize dnum z1 e1 = N1 at *
  generalize dnum z2 e2 = N2 at *
  generalize dden e1 = D1 at *
  generalize dden e2 = D2 at *
  have H_d1 := Lib.hid d1; clear d1
  have H_d2 := Lib.hid d2; clear d2
  have H_fa := Lib.hid fa; clear fa
  have H_hcl := Lib.hid hcl; clear hcl
  have H_hop := Lib.hid hop; clear hop
  have H_hsy := Lib.hid hsy; clear hsy
  have H_hh := Lib.hid hh; clear hh
  have H_ba := Lib.hid ba; clear ba
  have H_hs1 := Lib.hid hs1; clear hs1
  have H_hs2 := Lib.hid hs2; clear hs2
  dsimp only
  refine (‹∀ (a : Act) (w_1 : World), wpList _ _ _ _ a w_1 → _›) _ _ ?_
  refine wl_value rfl (v := ?v1) (w' := w4) ?y1 ?r1
  case y1 => (go_simp; try with_reducible rfl)
  try simp only [Act.put, yD, yE, yF]
  refine wl_value rfl (v := ?v2) (w' := w4) ?y2 ?r2
  case y2 => (go_simp; try with_reducible rfl)
  try simp only [Act.put, yD, yE, yF]
  refine wl_value rfl (v := ?v3) (w' := w4) ?y3 ?r3
  case y3 => (go_simp; try with_reducible rfl)
  try simp only [Act.put, yD, yE, yF]
  refine wl_value rfl (v := ?v4) (w' := w4) ?y4 ?r4
  case y4 => (go_simp; try with_reducible rfl)
  try simp only [Act.put, yD, yE, yF]
  refine wl_value rfl (v := ?v5) (w' := w4) ?y5 ?r5
  case y5 => (go_simp; try with_reducible rfl)
  try simp only [Act.put, yD, yE, yF]
  refine wl_value rfl (v := .pointer (some ⟨h, 0, none⟩)) (w' := w4.alloc (.cells #[.bool false, .slice none 0 0, .slice none 0 0] 30 (0, 0))) ?y6 ?r6
  case y6 => (have hh := H_hh.out; go_simp)
  try simp only [Act.put, yD, yE, yF]
  refine wl_value rfl (v := .pointer (some ⟨h + 1, 0, none⟩)) (w' := (w4.alloc (.cells #[.bool false, .slice none 0 0, .slice none 0 0] 30 (0, 0))).alloc (.cells #[.bool false, .slice none 0 0, .slice none 0 0] 30 (0, 0))) ?y7 ?r7
  case y7 => (have hh := H_hh.out; go_simp)
  try simp only [Act.put, yD, yE, yF]
  generalize hw5 : (w4.alloc _).alloc _ = w5
  obtain ⟨r5, r6, f5⟩ := H_ba.out w5 hw5
  have hlt1 := lt_of_row H_d1.out
  have hlt2 := lt_of_row H_d2.out
  rw [← H_hh.out] at hlt1 hlt2
  have d1 := row_fresh H_d1.out f5
  have d2 := row_fresh H_d2.out f5
  have fa := fresh_trans H_fa.out f5
  clear H_d1 H_d2 H_fa
  have hs1 := H_hs1.out.fresh f5
  have hs2 := H_hs2.out.fresh f5
  clear H_hs1 H_hs2
  have c1 := d1
  have c2 := d2
  have c3 := r5
  have c4 := r6
  have H_d1 := Lib.hid d1; clear d1
  have H_d2 := Lib.hid d2; clear d2
  have H_r5 := Lib.hid r5; clear r5
  have H_r6 := Lib.hid r6; clear r6
  have H_fa := Lib.hid fa; clear fa
  have H_hw5 := Lib.hid hw5; clear hw5
  have H_f5 := Lib.hid f5; clear f5
  have H_hlt1 := Lib.hid hlt1; clear hlt1
  have H_hlt2 := Lib.hid hlt2; clear hlt2
  have H_hs1 := Lib.hid hs1; clear hs1
  have H_hs2 := Lib.hid hs2; clear hs2
  have H_c1 := Lib.hid c1; clear c1
  have H_c2 := Lib.hid c2; clear c2
  have H_c3 := Lib.hid c3; clear c3
  have H_c4 := Lib.hid c4; clear c4
  obtain ⟨W8_, hW8⟩ : ∃ W, W = ((w5.setCell ⟨g, 0, none⟩ (.string y1)).setCell ⟨g, 1, none⟩ (.int .i64 e1)) := ⟨_, rfl⟩
  refine wl_skip rfl (w' := W8_) ?y8 ?r8
  case y8 => (rw [hW8]; have p0 := row_cell H_d1.out 0; have p1 := row_cell H_d1.out 1; simp at p0 p1; have q0 : w5.frozen? ⟨g, 0, none⟩ = false := frozen_of_row _ _ _ _ _ H_d1.out; have q1 : w5.frozen? ⟨g, 1, none⟩ = false := frozen_of_row _ _ _ _ _ H_d1.out; go_simp; try with_reducible rfl)
  try simp only [Act.put]
  have d1 : W8_.heap[g]? = some (.cells #[.string y1, .int .i64 e1] 23 (0, 0)) := by rw [hW8]; exact (row_set (row_set H_d1.out))
  have d2 : W8_.heap[g + 1]? = some (.cells #[.string t2, .int .i64 x2] 23 (0, 0)) := by rw [hW8]; exact (row_set_ne (by have := H_hlt1.out; have := H_hlt2.out; omega) (row_set_ne (by have := H_hlt1.out; have := H_hlt2.out; omega) H_d2.out))
  have r5 : W8_.heap[h]? = some (.cells #[.bool false, .slice none 0 0, .slice none 0 0] 30 (0, 0)) := by rw [hW8]; exact (row_set_ne (by have := H_hlt1.out; have := H_hlt2.out; omega) (row_set_ne (by have := H_hlt1.out; have := H_hlt2.out; omega) H_r5.out))
  have r6 : W8_.heap[h + 1]? = some (.cells #[.bool false, .slice none 0 0, .slice none 0 0] 30 (0, 0)) := by rw [hW8]; exact (row_set_ne (by have := H_hlt1.out; have := H_hlt2.out; omega) (row_set_ne (by have := H_hlt1.out; have := H_hlt2.out; omega) H_r6.out))
  have hf8 : Fresh w W8_ := by
    rw [hW8]
    have h1 := H_hg.out; have h2 := H_hlt1.out; have h3 := H_hlt2.out
    exact (H_fa.out.setCell (p := ⟨g, 0, none⟩) (fun hk => by change g < w.heap.size at hk; omega) _).setCell (p := ⟨g, 1, none⟩) (fun hk => by change g < w.heap.size at hk; omega) _
  clear H_d1 H_d2 H_r5 H_r6 H_fa
  have fa := hf8
  clear hf8
  have hS8 := hW8
  clear hW8
  have H_d1 := Lib.hid d1; clear d1
  have H_d2 := Lib.hid d2; clear d2
  have H_r5 := Lib.hid r5; clear r5
  have H_r6 := Lib.hid r6; clear r6
  have H_fa := Lib.hid fa; clear fa
  have H_hS8 := Lib.hid hS8; clear hS8
  obtain ⟨W9_, hW9⟩ : ∃ W, W = ((W8_.setCell ⟨g + 1, 0, none⟩ (.string y2)).setCell ⟨g + 1, 1, none⟩ (.int .i64 e2)) := ⟨_, rfl⟩
  refine wl_skip rfl (w' := W9_) ?y9 ?r9
  case y9 => (rw [hW9]; have p0 := row_cell H_d2.out 0; have p1 := row_cell H_d2.out 1; simp at p0 p1; have q0 : W8_.frozen? ⟨g + 1, 0, none⟩ = false := frozen_of_row _ _ _ _ _ H_d2.out; have q1 : W8_.frozen? ⟨g + 1, 1, none⟩ = false := frozen_of_row _ _ _ _ _ H_d2.out; go_simp; try with_reducible rfl)
  try simp only [Act.put]
  have d1 : W9_.heap[g]? = some (.cells #[.string y1, .int .i64 e1] 23 (0, 0)) := by rw [hW9]; exact (row_set_ne (by have := H_hlt1.out; have := H_hlt2.out; omega) (row_set_ne (by have := H_hlt1.out; have := H_hlt2.out; omega) H_d1.out))
  have d2 : W9_.heap[g + 1]? = some (.cells #[.string y2, .int .i64 e2] 23 (0, 0)) := by rw [hW9]; exact (row_set (row_set H_d2.out))
  have r5 : W9_.heap[h]? = some (.cells #[.bool false, .slice none 0 0, .slice none 0 0] 30 (0, 0)) := by rw [hW9]; exact (row_set_ne (by have := H_hlt1.out; have := H_hlt2.out; omega) (row_set_ne (by have := H_hlt1.out; have := H_hlt2.out; omega) H_r5.out))
  have r6 : W9_.heap[h + 1]? = some (.cells #[.bool false, .slice none 0 0, .slice none 0 0] 30 (0, 0)) := by rw [hW9]; exact (row_set_ne (by have := H_hlt1.out; have := H_hlt2.out; omega) (row_set_ne (by have := H_hlt1.out; have := H_hlt2.out; omega) H_r6.out))
  have hf9 : Fresh w W9_ := by
    rw [hW9]
    have h1 := H_hg.out; have h2 := H_hlt1.out; have h3 := H_hlt2.out
    exact (H_fa.out.setCell (p := ⟨g + 1, 0, none⟩) (fun hk => by change g + 1 < w.heap.size at hk; omega) _).setCell (p := ⟨g + 1, 1, none⟩) (fun hk => by change g + 1 < w.heap.size at hk; omega) _
  clear H_d1 H_d2 H_r5 H_r6 H_fa
  have fa := hf9
  clear hf9
  have hS9 := hW9
  clear hW9
  have H_d1 := Lib.hid d1; clear d1
  have H_d2 := Lib.hid d2; clear d2
  have H_r5 := Lib.hid r5; clear r5
  have H_r6 := Lib.hid r6; clear r6
  have H_fa := Lib.hid fa; clear fa
  have H_hS9 := Lib.hid hS9; clear hS9
  obtain ⟨W10_, hW10⟩ : ∃ W, W = (((W9_.setCell ⟨h, 0, none⟩ (.bool na)).setCell ⟨h, 1, none⟩ (.slice aa ln1 ca)).setCell ⟨h, 2, none⟩ (.slice ac ln3 cc)) := ⟨_, rfl⟩
  refine wl_skip rfl (w' := W10_) ?y10 ?r10
  case y10 => (rw [hW10]; have p0 := row_cell H_r5.out 0; have p1 := row_cell H_r5.out 1; have p2 := row_cell H_r5.out 2; simp at p0 p1 p2; have q0 : W9_.frozen? ⟨h, 0, none⟩ = false := frozen_of_row _ _ _ _ _ H_r5.out; have q1 : W9_.frozen? ⟨h, 1, none⟩ = false := frozen_of_row _ _ _ _ _ H_r5.out; have q2 : W9_.frozen? ⟨h, 2, none⟩ = false := frozen_of_row _ _ _ _ _ H_r5.out; go_simp; try with_reducible rfl)
  try simp only [Act.put]
  have d1 : W10_.heap[g]? = some (.cells #[.string y1, .int .i64 e1] 23 (0, 0)) := by rw [hW10]; exact (row_set_ne (by have := H_hlt1.out; have := H_hlt2.out; omega) (row_set_ne (by have := H_hlt1.out; have := H_hlt2.out; omega) (row_set_ne (by have := H_hlt1.out; have := H_hlt2.out; omega) H_d1.out)))
  have d2 : W10_.heap[g + 1]? = some (.cells #[.string y2, .int .i64 e2] 23 (0, 0)) := by rw [hW10]; exact (row_set_ne (by have := H_hlt1.out; have := H_hlt2.out; omega) (row_set_ne (by have := H_hlt1.out; have := H_hlt2.out; omega) (row_set_ne (by have := H_hlt1.out; have := H_hlt2.out; omega) H_d2.out)))
  have r5 : W10_.heap[h]? = some (.cells #[.bool na, .slice aa ln1 ca, .slice ac ln3 cc] 30 (0, 0)) := by rw [hW10]; exact (row_set (row_set (row_set H_r5.out)))
  have r6 : W10_.heap[h + 1]? = some (.cells #[.bool false, .slice none 0 0, .slice none 0 0] 30 (0, 0)) := by rw [hW10]; exact (row_set_ne (by have := H_hlt1.out; have := H_hlt2.out; omega) (row_set_ne (by have := H_hlt1.out; have := H_hlt2.out; omega) (row_set_ne (by have := H_hlt1.out; have := H_hlt2.out; omega) H_r6.out)))
  have hf10 : Fresh w W10_ := by
    rw [hW10]
    have h1 := H_hg.out; have h2 := H_hlt1.out; have h3 := H_hlt2.out
    exact Fresh.set3 H_fa.out (by omega)
  clear H_d1 H_d2 H_r5 H_r6 H_fa
  have fa := hf10
  clear hf10
  have hS10 := hW10
  clear hW10
  have H_d1 := Lib.hid d1; clear d1
  have H_d2 := Lib.hid d2; clear d2
  have H_r5 := Lib.hid r5; clear r5
  have H_r6 := Lib.hid r6; clear r6
  have H_fa := Lib.hid fa; clear fa
  have H_hS10 := Lib.hid hS10; clear hS10
  obtain ⟨W11_, hW11⟩ : ∃ W, W = (((W10_.setCell ⟨h + 1, 0, none⟩ (.bool nb)).setCell ⟨h + 1, 1, none⟩ (.slice ab ln2 cb)).setCell ⟨h + 1, 2, none⟩ (.slice ad ln4 cd)) := ⟨_, rfl⟩
  refine wl_skip rfl (w' := W11_) ?y11 ?r11
  case y11 => (rw [hW11]; have p0 := row_cell H_r6.out 0; have p1 := row_cell H_r6.out 1; have p2 := row_cell H_r6.out 2; simp at p0 p1 p2; have q0 : W10_.frozen? ⟨h + 1, 0, none⟩ = false := frozen_of_row _ _ _ _ _ H_r6.out; have q1 : W10_.frozen? ⟨h + 1, 1, none⟩ = false := frozen_of_row _ _ _ _ _ H_r6.out; have q2 : W10_.frozen? ⟨h + 1, 2, none⟩ = false := frozen_of_row _ _ _ _ _ H_r6.out; go_simp; try with_reducible rfl)
  try simp only [Act.put]
  have d1 : W11_.heap[g]? = some (.cells #[.string y1, .int .i64 e1] 23 (0, 0)) := by rw [hW11]; exact (row_set_ne (by have := H_hlt1.out; have := H_hlt2.out; omega) (row_set_ne (by have := H_hlt1.out; have := H_hlt2.out; omega) (row_set_ne (by have := H_hlt1.out; have := H_hlt2.out; omega) H_d1.out)))
  have d2 : W11_.heap[g + 1]? = some (.cells #[.string y2, .int .i64 e2] 23 (0, 0)) := by rw [hW11]; exact (row_set_ne (by have := H_hlt1.out; have := H_hlt2.out; omega) (row_set_ne (by have := H_hlt1.out; have := H_hlt2.out; omega) (row_set_ne (by have := H_hlt1.out; have := H_hlt2.out; omega) H_d2.out)))
  have r5 : W11_.heap[h]? = some (.cells #[.bool na, .slice aa ln1 ca, .slice ac ln3 cc] 30 (0, 0)) := by rw [hW11]; exact (row_set_ne (by have := H_hlt1.out; have := H_hlt2.out; omega) (row_set_ne (by have := H_hlt1.out; have := H_hlt2.out; omega) (row_set_ne (by have := H_hlt1.out; have := H_hlt2.out; omega) H_r5.out)))
  have r6 : W11_.heap[h + 1]? = some (.cells #[.bool nb, .slice ab ln2 cb, .slice ad ln4 cd] 30 (0, 0)) := by rw [hW11]; exact (row_set (row_set (row_set H_r6.out)))
  have hf11 : Fresh w W11_ := by
    rw [hW11]
    have h1 := H_hg.out; have h2 := H_hlt1.out; have h3 := H_hlt2.out
    exact Fresh.set3 H_fa.out (by omega)
  clear H_d1 H_d2 H_r5 H_r6 H_fa
  have fa := hf11
  clear hf11
  have hS11 := hW11
  clear hW11
  have H_d1 := Lib.hid d1; clear d1
  have H_d2 := Lib.hid d2; clear d2
  have H_r5 := Lib.hid r5; clear r5
  have H_r6 := Lib.hid r6; clear r6
  have H_fa := Lib.hid fa; clear fa
  have H_hS11 := Lib.hid hS11; clear hS11
  obtain ⟨-, -, -, -, hsf, -⟩ := four_rows (by omega) (by have := H_hlt1.out; omega) (by have := H_hlt1.out; omega) (by have := H_hlt2.out; omega) (by have := H_hlt2.out; omega) (by omega) H_c1.out H_c2.out H_c3.out H_c4.out _ _ _ _ _ _ _ _ _ _ (by intro n; simp [wd]) (by intro n; simp [wd]) (by intro n; simp [wd]) (by intro n; simp [wd]) W11_ (by rw [H_hS11.out, H_hS10.out, H_hS9.out, H_hS8.out])
  have hs1 := hsf _ _ _ H_hs1.out
  have hs2 := hsf _ _ _ H_hs2.out
  clear H_hs1 H_hs2 hsf H_c1 H_c2 H_c3 H_c4 H_hS8 H_hS9 H_hS10 H_hS11 H_hw5 H_f5 H_ba
  have k0 := row_cell H_d1.out 0
  have k1 := row_cell H_d1.out 1
  have k2 := row_cell H_d2.out 0
  have k3 := row_cell H_d2.out 1
  simp at k0 k1 k2 k3
  have H_hs1 := Lib.hid hs1; clear hs1
  have H_hs2 := Lib.hid hs2; clear hs2
  go_wp2_with (fail)
  refine (H_hcl.out _ H_fa.out).mono ?_
  rintro e w12 ⟨rfl, f12⟩
  clear k0 k1 k2 k3
  obtain ⟨h7, hh7⟩ : ∃ k, k = w12.heap.size := ⟨_, rfl⟩
  have H_f12 := Lib.hid f12; clear f12
  have H_hh7 := Lib.hid hh7; clear hh7
  go_wp2_with (fail)
  generalize hw13 : w12.alloc _ = w13
  have f13 : Fresh w12 w13 := by rw [← hw13]; exact (Keep.refl _ _).alloc _
  have r7 : w13.heap[h7]? = some (.cells #[.string yr, .int .i64 m] 23 (0, 0)) := by rw [← hw13, H_hh7.out]; exact heap_alloc_new w12 _
  rw [← H_hh7.out]
  have f13 := fresh_trans H_f12.out f13
  have fa := fresh_trans H_fa.out f13
  have r5 := row_fresh H_r5.out f13
  have r6 := row_fresh H_r6.out f13
  have hs1 := H_hs1.out.fresh f13
  have hs2 := H_hs2.out.fresh f13
  clear H_r5 H_r6 H_hs1 H_hs2 H_fa H_d1 H_d2
  have k0 := row_cell r7 0
  have k1 := row_cell r7 1
  have k2 := row_cell r5 0
  have k3 := row_cell r5 1
  have k4 := row_cell r5 2
  have k5 := row_cell r6 0
  have k6 := row_cell r6 1
  have k7 := row_cell r6 2
  simp at k0 k1 k2 k3 k4 k5 k6 k7
  have H_hw13 := Lib.hid hw13; clear hw13
  have H_r5 := Lib.hid r5; clear r5
  have H_r6 := Lib.hid r6; clear r6
  have H_r7 := Lib.hid r7; clear r7
  have H_hs1 := Lib.hid hs1; clear hs1
  have H_hs2 := Lib.hid hs2; clear hs2
  have H_fa := Lib.hid fa; clear fa
  have H_f13 := Lib.hid f13; clear f13
  refine wp_region_E (S := (fun (w' : World) => w'.cell? ⟨h7, 0, none⟩ = some (.string yr) ∧ w'.cell? ⟨h7, 1, none⟩ = some (.int .i64 m) ∧ w'.cell? ⟨h, 0, none⟩ = some (.bool na) ∧ w'.cell? ⟨h, 1, none⟩ = some (.slice aa ln1 ca) ∧ w'.cell? ⟨h, 2, none⟩ = some (.slice ac ln3 cc) ∧ w'.cell? ⟨h + 1, 0, none⟩ = some (.bool nb) ∧ w'.cell? ⟨h + 1, 1, none⟩ = some (.slice ab ln2 cb) ∧ w'.cell? ⟨h + 1, 2, none⟩ = some (.slice ad ln4 cd))) 9 (by kernel_rfl) (by exact ⟨k0, k1, k2, k3, k4, k5, k6, k7⟩) (fun hHeld => ?_)
  refine wpAnyE_takeP (i := 0) (v := ?v0_1) rfl (by kernel_rfl) (fun _ _ _ h => h) ⟨by rfl, ?y0_1⟩ (by assumption) ?r0_1
  case y0_1 => (intro w; go_simp; try with_reducible rfl)
  try simp only [Act.put, yA, yB, yD, yE, yF]
  refine wpAnyE_takeP (i := 1) (v := .bool true) rfl (by kernel_rfl) (fun _ _ _ h => h) ⟨by rfl, ?y1_1⟩ (by assumption) ?r1_1
  case y1_1 => (intro w; go_simp)
  try simp only [Act.put, yA, yB, yC, yD, yE, yF]
  refine wpAnyE_takeP (i := 2) (v := .bool true) rfl (by kernel_rfl) (fun _ _ _ h => h) ⟨by rfl, ?y2_1⟩ (by assumption) ?r2_1
  case y2_1 => (intro w; go_simp)
  try simp only [Act.put, yA, yB, yC, yD, yE, yF]
  refine wpAnyE_takeL (i := 3) (c := 7) (v := ?v3_1) rfl (by kernel_rfl) (fun _ _ _ h => h) ⟨by rfl, ?y3_1⟩ (by assumption) ?r3_1
  case y3_1 => (intro w hSw; go_split_ands; go_simp; try with_reducible rfl)
  try simp only [Act.put, yA, yB, yC, yD, yE, yF]
  refine wpAnyE_takeL (i := 4) (c := 6) (v := ?v4_1) rfl (by kernel_rfl) (fun _ _ _ h => h) ⟨by rfl, ?y4_1⟩ (by assumption) ?r4_1
  case y4_1 => (intro w hSw; go_split_ands; go_simp; try with_reducible rfl)
  try simp only [Act.put, yA, yB, yC, yD, yE, yF]
  refine wpAnyE_takeL (i := 5) (c := 6) (v := ?v5_1) rfl (by kernel_rfl) (fun _ _ _ h => h) ⟨by rfl, ?y5_1⟩ (by assumption) ?r5_1
  case y5_1 => (intro w hSw; go_split_ands; go_simp; try with_reducible rfl)
  try simp only [Act.put, yA, yB, yC, yD, yE, yF]
  refine wpAnyE_one (i := 6) rfl (by kernel_rfl) (fun K hK => ?_)
  go_simp
  refine (H_hop.out _ (H_hs1.out.fresh ?c1) (H_hs2.out.fresh ?c2)).mono ?_; (case c1 => exact (Keep.refl _ _).drew); (case c2 => exact (Keep.refl _ _).drew); rintro e w14 ⟨xw, rfl, hsx, r⟩; have y := r.of_drew; have m0 := cell_fresh k0 y; have m1 := cell_fresh k1 y; have m2 := cell_fresh k2 y; have m3 := cell_fresh k3 y; have m4 := cell_fresh k4 y; have m5 := cell_fresh k5 y; have m6 := cell_fresh k6 y; have m7 := cell_fresh k7 y; have H_y14 := Lib.hid y; have H_hsx := Lib.hid hsx; clear y r hsx
  go_wp2_with (fail)
  have hHeld1 : ((fun (w' : World) => w'.cell? ⟨h7, 0, none⟩ = some (.string yr) ∧ w'.cell? ⟨h7, 1, none⟩ = some (.int .i64 m) ∧ w'.cell? ⟨h, 0, none⟩ = some (.bool na) ∧ w'.cell? ⟨h, 1, none⟩ = some (.slice aa ln1 ca) ∧ w'.cell? ⟨h, 2, none⟩ = some (.slice ac ln3 cc) ∧ w'.cell? ⟨h + 1, 0, none⟩ = some (.bool nb) ∧ w'.cell? ⟨h + 1, 1, none⟩ = some (.slice ab ln2 cb) ∧ w'.cell? ⟨h + 1, 2, none⟩ = some (.slice ad ln4 cd))) _ := ⟨m0, m1, m2, m3, m4, m5, m6, m7⟩
  refine hK.out _ _ (fun _ => hHeld1) ?_
  clear hK K
  try simp only [Act.put, yA, yB, yC, yD, yE, yF]
  refine wpAnyE_one (i := 7) rfl (by kernel_rfl) (fun K hK => ?_)
  go_simp
  refine (H_hsy.out _ _ H_hsx.out).mono ?_; rintro e w15 ⟨rfl, r⟩; have y := r; have n0 := cell_fresh m0 y; have n1 := cell_fresh m1 y; have n2 := cell_fresh m2 y; have n3 := cell_fresh m3 y; have n4 := cell_fresh m4 y; have n5 := cell_fresh m5 y; have n6 := cell_fresh m6 y; have n7 := cell_fresh m7 y; have H_y15 := Lib.hid y; clear y r
  go_wp2_with (fail)
  have hHeld2 : ((fun (w' : World) => w'.cell? ⟨h7, 0, none⟩ = some (.string yr) ∧ w'.cell? ⟨h7, 1, none⟩ = some (.int .i64 m) ∧ w'.cell? ⟨h, 0, none⟩ = some (.bool na) ∧ w'.cell? ⟨h, 1, none⟩ = some (.slice aa ln1 ca) ∧ w'.cell? ⟨h, 2, none⟩ = some (.slice ac ln3 cc) ∧ w'.cell? ⟨h + 1, 0, none⟩ = some (.bool nb) ∧ w'.cell? ⟨h + 1, 1, none⟩ = some (.slice ab ln2 cb) ∧ w'.cell? ⟨h + 1, 2, none⟩ = some (.slice ad ln4 cd))) _ := ⟨n0, n1, n2, n3, n4, n5, n6, n7⟩
  refine hK.out _ _ (fun _ => hHeld2) ?_
  clear hK K
  try simp only [Act.put, yA, yB, yC, yD, yE, yF]
  refine wpAnyE_takeP (i := 8) (v := .bool true) rfl (by kernel_rfl) (fun _ _ _ h => h) ⟨by rfl, ?y8_1⟩ (by assumption) ?r8_1
  case y8_1 => (intro w; go_simp)
  try simp only [Act.put, yA, yB, yC, yD, yE, yF]
  refine wpAnyE_one (i := 9) rfl (by kernel_rfl) (fun K hK => ?_)
  go_simp
  refine hK.out _ _ (fun h => Bool.noConfusion (show true = false from h)) ?_
  clear hK K
  try simp only [Act.put, yA, yB, yC, yD, yE, yF]
  refine wpAnyE_done (by kernel_rfl) ?_ _
  go_wp2_with (fail)
  go_ret
  exact ⟨rfl, fresh_trans H_fa.out (fresh_trans H_y14.out H_y15.out)⟩

end Go.Proofs.YtjjolcjeiogdmaaGreatDoor

/- Facts about the program as a whole that every card asks. -/
namespace Go.Proofs.YtjjolcjeiogdmaaGreatDoor
open Go Go.ChangeShapes Go.WideShapes Go.ChangeAt Go.RowKit Go.Lib Go.Joins

theorem main_is : Tryz.pinned.checked.prog.mainIs = some (Rows.fnDecCmpCard.stood.harness.fst, Rows.fnDecCmpCard.stood.harness.snd.toList) := by kernel_rfl

theorem looks_no : false = Tryz.pinned.checked.prog.looks [] := by kernel_rfl

end Go.Proofs.YtjjolcjeiogdmaaGreatDoor

/- The contracts of the reference on govalues' decimals: FixIs, Minus, FixDec. -/
namespace Go.Proofs.YtjjolcjeiogdmaaGreatDoor
open Go.RowKit

end Go.Proofs.YtjjolcjeiogdmaaGreatDoor

/- The contracts of the reference on govalues' decimals: Minus, FixDec, FixNum. -/
namespace Go.Proofs.YtjjolcjeiogdmaaGreatDoor
open Go.RowKit

set_option maxRecDepth 20000 in
theorem Minus_any (neg : Bool) (v : Value) (l : List Nat) (w : World) (h : SNat w v l) :
    Calls Tryz.prog 68 #[swh neg v] w (fun e w' => e = .returned (swh (!neg && decide (0 < l.length)) v) ∧ Fresh w w') := by
  obtain ⟨a, c, rfl⟩ := h.form
  obtain ⟨g, hg⟩ : ∃ g, g = w.heap.size := ⟨_, rfl⟩
  have bx := boxes2 w #[.bool neg, .slice a l.length c] #[.bool false, .slice none 0 0] 28 28 g hg
  have H_h := Lib.hid h; clear h
  have H_bx := Lib.hid bx; clear bx
  go_enter Tryz.func68, Tryz.ntmps68
  go_wp2_with (fail)
  generalize hw1 : (w.alloc _).alloc _ = w1
  rw [← hg]
  obtain ⟨b1, b2, hf⟩ := H_bx.out w1 hw1
  refine (wholeOf_any _ _ _ _ (H_h.out.fresh hf)).mono ?_
  rintro e w2 ⟨rfl, hf2⟩
  have b3 := row_fresh b2 hf2
  have p0 := row_cell b3 0
  have p1 := row_cell b3 1
  simp at p0 p1
  have q0 : w2.frozen? ⟨g + 1, 0, none⟩ = false := frozen_of_row _ _ _ _ _ b3
  have q1 : w2.frozen? ⟨g + 1, 1, none⟩ = false := frozen_of_row _ _ _ _ _ b3
  have H_b1 := Lib.hid b1; clear b1
  have H_b2 := Lib.hid b2; clear b2
  have H_b3 := Lib.hid b3; clear b3
  have H_hf := Lib.hid hf; clear hf
  have H_hf2 := Lib.hid hf2; clear hf2
  have H_hw1 := Lib.hid hw1; clear hw1
  have H_hg := Lib.hid hg; clear hg
  go_wp2_with (fail)
  refine bodyPost_ret (results_cell_row rfl _ _ (g + 1) 28 #[.bool (!neg && decide (0 < l.length)), .slice a l.length c] (0, 0) _ rfl (row_set (row_set H_b3.out)) Tryz.underlying28 rfl (by kernel_rfl)) rfl ?_
  exact ⟨rfl, ((fresh_trans H_hf.out H_hf2.out).setCell (fun h => by have := H_hg.out; change g + 1 < w.heap.size at h; omega) _).setCell (fun h => by have := H_hg.out; change g + 1 < w.heap.size at h; omega) _⟩

end Go.Proofs.YtjjolcjeiogdmaaGreatDoor

/- The contracts of the reference's fractions: Minus, Sub. -/
namespace Go.Proofs.YtjjolcjeiogdmaaGreatDoor
open Go.RowKit

theorem sint_minus {n : Bool} {l : List Nat} (hn : Norm l) : sint (!n && decide (0 < l.length)) l = -sint n l := by
  rw [sint_canon _ hn]
  cases n <;> simp [sint]

set_option maxRecDepth 20000 in
set_option maxHeartbeats 4000000 in
theorem FracMinus_any (xa : Value) (za : Int) (da : Nat) (w : World) (ha : SFr w xa za da) :
    Calls Tryz.prog 43 #[xa] w (FRet w (-za) da) := by
  obtain ⟨na, va, la, dva, dla, rfl, ha, hna, hca, rfl, hda, hdna, rfl⟩ := ha
  obtain ⟨aa, ca, rfl⟩ := ha.form
  obtain ⟨ada, cda, rfl⟩ := hda.form
  obtain ⟨g, hg⟩ : ∃ g, g = w.heap.size := ⟨_, rfl⟩
  have bx := boxes2 w #[.bool na, .slice aa la.length ca, .slice ada dla.length cda] #[.bool false, .slice none 0 0, .slice none 0 0] 30 30 g hg
  have hmin : ∀ w1, Fresh w w1 → ∀ W, Fresh w1 W → Calls Tryz.prog 68 #[swh na (.slice aa la.length ca)] W (fun e w' => e = .returned (swh (!na && decide (0 < la.length)) (.slice aa la.length ca)) ∧ Fresh W w') := fun w1 hf W hW => Minus_any _ _ la W ((ha.fresh hf).fresh hW)
  obtain ⟨nb, hnb⟩ : ∃ b, b = (!na && decide (0 < la.length)) := ⟨_, rfl⟩
  rw [← hnb] at hmin
  have H_ha := Lib.hid ha; clear ha
  have H_hda := Lib.hid hda; clear hda
  have H_bx := Lib.hid bx; clear bx
  have H_hna := Lib.hid hna; clear hna
  have H_hca := Lib.hid hca; clear hca
  have H_hdna := Lib.hid hdna; clear hdna
  have H_hmin := Lib.hid hmin; clear hmin
  have H_hnb := Lib.hid hnb; clear hnb
  go_enter Tryz.func43, Tryz.ntmps43
  go_wp2_with (fail)
  generalize hw1 : (w.alloc _).alloc _ = w1
  rw [← hg]
  obtain ⟨b1, b2, hf⟩ := H_bx.out w1 hw1
  have k0 := row_cell b1 0
  have k1 := row_cell b1 1
  have k2 := row_cell b1 2
  simp at k0 k1 k2
  have hmin := H_hmin.out w1 hf
  clear H_hmin
  have H_b1 := Lib.hid b1; clear b1
  have H_b2 := Lib.hid b2; clear b2
  have H_hf := Lib.hid hf; clear hf
  have H_hw1 := Lib.hid hw1; clear hw1
  have H_hg := Lib.hid hg; clear hg
  have H_hmin := Lib.hid hmin; clear hmin
  go_region_held3 (fun (w' : World) => w'.cell? ⟨g, 0, none⟩ = some (.bool na) ∧ w'.cell? ⟨g, 1, none⟩ = some (.slice aa la.length ca) ∧ w'.cell? ⟨g, 2, none⟩ = some (.slice ada dla.length cda)) (first | exact ⟨k0, k1, k2⟩ | exact ⟨m0, m1, m2⟩ | exact ⟨far3 (by omega) m0, far3 (by omega) m1, far3 (by omega) m2⟩) (first
    | (go_at_call 68; (with_reducible refine (H_hmin.out _ ?c1).mono ?_); (case c1 => first | exact Keep.refl _ _ | exact (Keep.refl _ _).drew | exact (Keep.refl _ _).drewN _); rintro e w3 ⟨rfl, r2⟩; have hf3 : Fresh w1 w3 := (by first | exact r2 | exact r2.of_drew | exact r2.of_drewN); have m0 := cell_fresh k0 hf3; have m1 := cell_fresh k1 hf3; have m2 := cell_fresh k2 hf3; have b4 := row_fresh H_b2.out (hf3); have p0 := row_cell b4 0; have p1 := row_cell b4 1; have p2 := row_cell b4 2; have z0 : w3.frozen? ⟨g + 1, 0, none⟩ = false := frozen_of_row _ _ _ _ _ b4; have z1 : w3.frozen? ⟨g + 1, 1, none⟩ = false := frozen_of_row _ _ _ _ _ b4; have z2 : w3.frozen? ⟨g + 1, 2, none⟩ = false := frozen_of_row _ _ _ _ _ b4; simp at p0 p1 p2; have H_b4 := Lib.hid b4; clear b4; have H_hf3 := Lib.hid hf3; clear r2 hf3))
  go_wp2
  refine bodyPost_ret (results_cell_row rfl _ _ (g + 1) 30 #[.bool nb, .slice aa la.length ca, .slice ada dla.length cda] (0, 0) _ rfl (row_set (row_set (row_set H_b4.out))) Tryz.underlying30 rfl (by kernel_rfl)) rfl ?_
  have ha3 := (H_ha.out.fresh H_hf.out).fresh H_hf3.out
  have hda3 := (H_hda.out.fresh H_hf.out).fresh H_hf3.out
  have f1 := ha3.off p0 (fun n e => by simp at e)
  have f2 := hda3.off p0 (fun n e => by simp at e)
  exact ⟨_, rfl, ⟨nb, _, la, _, dla, rfl, ((ha3.setOff f1).setOff f1).setOff f1, H_hna.out, fun h => by rw [H_hnb.out, h]; simp, by rw [H_hnb.out]; exact sint_minus H_hna.out, ((hda3.setOff f2).setOff f2).setOff f2, H_hdna.out, rfl⟩, (fresh_trans H_hf.out H_hf3.out).set3 (by have := H_hg.out; omega)⟩

set_option maxRecDepth 20000 in
set_option maxHeartbeats 4000000 in
theorem FracSub_any (xa xb : Value) (za zb : Int) (da db : Nat) (w : World) (ha : SFr w xa za da) (hb : SFr w xb zb db) (h1 : za.natAbs < spow 1000) (h2 : zb.natAbs < spow 1000) (h3 : da < spow 1000) (h4 : db < spow 1000) :
    Calls Tryz.prog 17 #[xa, xb] w (FRet w (za * db + -zb * da) (da * db)) := by
  have hadd : ∀ w1, Fresh w w1 → ∀ W x, Fresh w1 W → SFr W x (-zb) db → Calls Tryz.prog 15 #[xa, x] W (FRet W (za * db + -zb * da) (da * db)) :=
    fun w1 hf W x hW hx => FracAdd_any xa x za (-zb) da db W ((ha.fresh hf).fresh hW) hx h1 (by rw [Int.natAbs_neg]; exact h2) h3 h4
  have hmin : ∀ w1, Fresh w w1 → ∀ W, Fresh w1 W → Calls Tryz.prog 43 #[xb] W (FRet W (-zb) db) := fun w1 hf W hW => FracMinus_any xb zb db W ((hb.fresh hf).fresh hW)
  obtain ⟨na, va, la, dva, dla, rfl, ha, hna, hca, hza, hda, hdna, hdd⟩ := ha
  obtain ⟨nb, vb, lb, dvb, dlb, rfl, hb, hnb, hcb, hzb, hdb, hdnb, hdd2⟩ := hb
  obtain ⟨aa, ca, rfl⟩ := ha.form
  obtain ⟨ab, cb, rfl⟩ := hb.form
  obtain ⟨ada, cda, rfl⟩ := hda.form
  obtain ⟨adb, cdb, rfl⟩ := hdb.form
  obtain ⟨g, hg⟩ : ∃ g, g = w.heap.size := ⟨_, rfl⟩
  have bx := boxes3 w #[.bool na, .slice aa la.length ca, .slice ada dla.length cda] #[.bool nb, .slice ab lb.length cb, .slice adb dlb.length cdb] #[.bool false, .slice none 0 0, .slice none 0 0] 30 30 30 g hg
  clear ha hna hca hza hda hdna hdd hb hnb hcb hzb hdb hdnb hdd2 h1 h2 h3 h4
  generalize za * db + -zb * da = z at *
  generalize da * db = d at *
  have H_bx := Lib.hid bx; clear bx
  have H_hadd := Lib.hid hadd; clear hadd
  have H_hmin := Lib.hid hmin; clear hmin
  go_enter Tryz.func17, Tryz.ntmps17
  go_wp2_with (fail)
  generalize hw1 : ((w.alloc _).alloc _).alloc _ = w1
  rw [← hg]
  obtain ⟨b1, b2, b3, hf, _⟩ := H_bx.out w1 hw1
  have k0 := row_cell b1 0
  have k1 := row_cell b1 1
  have k2 := row_cell b1 2
  have k3 := row_cell b2 0
  have k4 := row_cell b2 1
  have k5 := row_cell b2 2
  simp at k0 k1 k2 k3 k4 k5
  have hmin := H_hmin.out w1 hf
  have hadd := H_hadd.out w1 hf
  clear H_hmin H_hadd
  have H_b1 := Lib.hid b1; clear b1
  have H_b2 := Lib.hid b2; clear b2
  have H_b3 := Lib.hid b3; clear b3
  have H_hf := Lib.hid hf; clear hf
  have H_hw1 := Lib.hid hw1; clear hw1
  have H_hg := Lib.hid hg; clear hg
  have H_hmin := Lib.hid hmin; clear hmin
  have H_hadd := Lib.hid hadd; clear hadd
  go_region_held3 (fun (w' : World) => w'.cell? ⟨g, 0, none⟩ = some (.bool na) ∧ w'.cell? ⟨g, 1, none⟩ = some (.slice aa la.length ca) ∧ w'.cell? ⟨g, 2, none⟩ = some (.slice ada dla.length cda) ∧ w'.cell? ⟨g + 1, 0, none⟩ = some (.bool nb) ∧ w'.cell? ⟨g + 1, 1, none⟩ = some (.slice ab lb.length cb) ∧ w'.cell? ⟨g + 1, 2, none⟩ = some (.slice adb dlb.length cdb)) (first | exact ⟨k0, k1, k2, k3, k4, k5⟩ | exact ⟨m0, m1, m2, m3, m4, m5⟩ | exact ⟨nc0, nc1, nc2, nc3, nc4, nc5⟩ | exact ⟨far3 (by omega) nc0, far3 (by omega) nc1, far3 (by omega) nc2, far3 (by omega) nc3, far3 (by omega) nc4, far3 (by omega) nc5⟩) (first
    | (go_at_call 43; (with_reducible refine (H_hmin.out _ ?c1).mono ?_); (case c1 => first | exact Keep.refl _ _ | exact (Keep.refl _ _).drew | exact (Keep.refl _ _).drewN _); rintro e w3 ⟨x3, rfl, t1, r2⟩; have hf3 : Fresh w1 w3 := (by first | exact r2 | exact r2.of_drew | exact r2.of_drewN); have m0 := cell_fresh k0 hf3; have m1 := cell_fresh k1 hf3; have m2 := cell_fresh k2 hf3; have m3 := cell_fresh k3 hf3; have m4 := cell_fresh k4 hf3; have m5 := cell_fresh k5 hf3; have H_t1 := Lib.hid t1; have H_hf3 := Lib.hid hf3; clear t1 r2 hf3)
    | (go_at_call 15; (with_reducible refine (H_hadd.out _ _ H_hf3.out H_t1.out).mono ?_); rintro e w6 ⟨x6, rfl, ⟨n6, v6, l6, dv6, dl6, rfl, u1, u2, u3, u4, u5, u6, u7⟩, r6⟩; obtain ⟨a6, c6, rfl⟩ := u1.form; obtain ⟨a7, c7, rfl⟩ := u5.form; have nc0 := cell_fresh m0 r6; have nc1 := cell_fresh m1 r6; have nc2 := cell_fresh m2 r6; have nc3 := cell_fresh m3 r6; have nc4 := cell_fresh m4 r6; have nc5 := cell_fresh m5 r6; have b4 := row_fresh H_b3.out (fresh_trans H_hf3.out r6); have p0 := row_cell b4 0; have p1 := row_cell b4 1; have p2 := row_cell b4 2; have z0 : w6.frozen? ⟨g + 1 + 1, 0, none⟩ = false := frozen_of_row _ _ _ _ _ b4; have z1 : w6.frozen? ⟨g + 1 + 1, 1, none⟩ = false := frozen_of_row _ _ _ _ _ b4; have z2 : w6.frozen? ⟨g + 1 + 1, 2, none⟩ = false := frozen_of_row _ _ _ _ _ b4; simp at p0 p1 p2; have H_b4 := Lib.hid b4; clear b4; have H_u1 := Lib.hid u1; have H_u2 := Lib.hid u2; have H_u3 := Lib.hid u3; have H_u4 := Lib.hid u4; have H_u5 := Lib.hid u5; have H_u6 := Lib.hid u6; have H_u7 := Lib.hid u7; have H_r6 := Lib.hid r6; clear u1 u2 u3 u4 u5 u6 u7 r6))
  go_wp2
  refine bodyPost_ret (results_cell_row rfl _ _ (g + 1 + 1) 30 #[.bool n6, .slice a6 l6.length c6, .slice a7 dl6.length c7] (0, 0) _ rfl (row_set (row_set (row_set H_b4.out))) Tryz.underlying30 rfl (by kernel_rfl)) rfl ?_
  have f1 := H_u1.out.off p0 (fun n e => by simp at e)
  have f2 := H_u5.out.off p0 (fun n e => by simp at e)
  exact ⟨_, rfl, ⟨n6, _, l6, _, dl6, rfl, ((H_u1.out.setOff f1).setOff f1).setOff f1, H_u2.out, H_u3.out, H_u4.out, ((H_u5.out.setOff f2).setOff f2).setOff f2, H_u6.out, H_u7.out⟩, (fresh_trans H_hf.out (fresh_trans H_hf3.out H_r6.out)).set3 (by have := H_hg.out; omega)⟩

end Go.Proofs.YtjjolcjeiogdmaaGreatDoor
