/- The walk of FnDecDiv. Printed by gen_lw2.py FnDecDiv. -/
import Derived.Test.YtllencgncinphaaGreatDoorKE13
import Derived.Test.YtllencgncinphaaGreatDoorKE46
namespace Go.Proofs.YtllencgncinphaaGreatDoor
open Go.RowKit
open Go.Lib (hid)
set_option maxRecDepth 20000
set_option maxHeartbeats 4000000

theorem FnDecDiv_out (t1 t2 : ByteArray) (x1 x2 : Int) (w : World) (h1 : t1.size ≤ 9223372036854775807) (h2 : t2.size ≤ 9223372036854775807) (h : ¬(t1.size ≤ 2147483647 ∧ t2.size ≤ 2147483647)) :
 Calls Tryz.prog 9 #[.agg #[.string t1, .int .i64 x1], .agg #[.string t2, .int .i64 x2]] w (VRet w (.bool true)) := by
 have hz1 := fun W => zzFits1_any t1 x1 W h1
 have hz2 := fun W => zzFits1_any t2 x2 W h2
 have hb : (decide (t1.size ≤ 2147483647) = true ∧ decide (t2.size ≤ 2147483647) = false) ∨ decide (t1.size ≤ 2147483647) = false := by
  by_cases k : t1.size ≤ 2147483647
  · exact .inl ⟨by simpa using k, by simp; omega⟩
  · exact .inr (by simpa using k)
 obtain ⟨g, hg⟩ : ∃ g, g = w.heap.size := ⟨_, rfl⟩
 have bx := boxes2 w #[.string t1, .int .i64 x1] #[.string t2, .int .i64 x2] 23 23 g hg
 clear h1 h2 h
 generalize decide (t1.size ≤ 2147483647) = q1 at *
 generalize decide (t2.size ≤ 2147483647) = q2 at *
 have H_bx := hid bx; have H_hz1 := hid hz1; have H_hz2 := hid hz2; clear bx hz1 hz2
 rcases hb with ⟨rfl, rfl⟩ | rfl
 all_goals
  go_enter Tryz.func9, Tryz.ntmps9
  go_wp2_with (fail)
  generalize hw1 : (w.alloc _).alloc _ = w1
  rw [← hg]
  obtain ⟨d1, d2, fa⟩ := H_bx.out w1 hw1
  have k0 := rwc d1 0
  have k1 := rwc d1 1
  have m0 := rwc d2 0
  have m1 := rwc d2 1
  simp at k0 k1 m0 m1
  have H_fa := hid fa; have H_hw1 := hid hw1; have H_d1 := hid d1; have H_d2 := hid d2; have H_hg := hid hg; clear fa hw1 d1 d2 hg
  go_wp2_with (fail)
  refine (H_hz1.out _).mono ?_
  rintro e w2 ⟨rfl, f2⟩
  have m0 := cfr m0 f2
  have m1 := cfr m1 f2
  have f2 := ftr H_fa.out f2
  clear k0 k1
  have H_f2 := hid f2; clear f2
  go_wp2_with (fail)
 · refine (H_hz2.out _).mono ?_
   rintro e w3 ⟨rfl, f3⟩
   have f3 := ftr H_f2.out f3
   clear m0 m1
   have H_f3 := hid f3; clear f3
   go_wp2_with (fail)
   go_ret
   exact ⟨rfl, H_f3.out⟩
 · go_ret
   exact ⟨rfl, H_f2.out⟩

theorem FnDecDiv_main (S1 S2 : List Nat) (x1 x2 : Int) (w : World) (hG : Glob w) (hV : DivP w) (hS1 : ∀ c ∈ S1, c < 256) (hS2 : ∀ c ∈ S2, c < 256) (hl1 : S1.length ≤ 2147483647) (hl2 : S2.length ≤ 2147483647) (hx1 : -9223372036854775808 ≤ x1 ∧ x1 ≤ 9223372036854775807) (hx2 : -9223372036854775808 ≤ x2 ∧ x2 ≤ 9223372036854775807) :
 Calls Tryz.prog 9 #[.agg #[.string (bstr S1), .int .i64 x1], .agg #[.string (bstr S2), .int .i64 x2]] w (VRet w (.bool true)) := by
 have hz1 := fun W => zzFits1_any (bstr S1) x1 W (by rw [bstr_size]; omega)
 have hz2 := fun W => zzFits1_any (bstr S2) x2 W (by rw [bstr_size]; omega)
 rw [show decide ((bstr S1).size ≤ 2147483647) = true by rw [bstr_size]; simpa using hl1] at hz1
 rw [show decide ((bstr S2).size ≤ 2147483647) = true by rw [bstr_size]; simpa using hl2] at hz2
 have har := fun W => arTwo_any S1 S2 x1 x2 W hS1 hS2 hl1 hl2 hx1 hx2
 generalize bstr S1 = t1 at *
 generalize bstr S2 = t2 at *
 clear hS1 hS2 hl1 hl2 hx1 hx2
 obtain ⟨g, hg⟩ : ∃ g, g = w.heap.size := ⟨_, rfl⟩
 have bx := boxes2 w #[.string t1, .int .i64 x1] #[.string t2, .int .i64 x2] 23 23 g hg
 have H_bx := hid bx; have H_hz1 := hid hz1; have H_hz2 := hid hz2; have H_har := hid har; have H_hG := hid hG; have H_hV := hid hV; clear bx hz1 hz2 har hG hV
 go_enter Tryz.func9, Tryz.ntmps9
 go_wp2_with (fail)
 generalize hw1 : (w.alloc _).alloc _ = w1
 rw [← hg]
 obtain ⟨d1, d2, fa⟩ := H_bx.out w1 hw1
 have k0 := rwc d1 0
 have k1 := rwc d1 1
 have m0 := rwc d2 0
 have m1 := rwc d2 1
 simp at k0 k1 m0 m1
 have H_fa := hid fa; have H_hw1 := hid hw1; have H_d1 := hid d1; have H_d2 := hid d2; have H_hg := hid hg; clear fa hw1 d1 d2 hg
 go_wp2_with (fail)
 refine (H_hz1.out _).mono ?_
 rintro e w2 ⟨rfl, f2⟩
 have m0 := cfr m0 f2
 have m1 := cfr m1 f2
 clear k0 k1
 have H_f2 := hid f2; clear f2
 go_wp2_with (fail)
 refine (H_hz2.out _).mono ?_
 rintro e w3 ⟨rfl, f3⟩
 clear m0 m1
 have f13 := ftr H_f2.out f3
 have d1 := rfr H_d1.out f13
 have d2 := rfr H_d2.out f13
 have fa := ftr H_fa.out f13
 clear H_d1 H_d2 H_fa H_f2 f3 f13
 have k0 := rwc d1 0
 have k1 := rwc d1 1
 have m0 := rwc d2 0
 have m1 := rwc d2 1
 simp at k0 k1 m0 m1
 have H_d1 := hid d1; have H_d2 := hid d2; have H_fa := hid fa; clear d1 d2 fa
 go_wp2_with (fail)
 refine (H_har.out _).mono ?_
 rintro e w4 ⟨z1, e1, z2, e2, u1, u2, rfl, q1, q2, q4, q5, s1, s2, f4⟩
 clear k0 k1 m0 m1
 have d1 := rfr H_d1.out f4
 have d2 := rfr H_d2.out f4
 have fa := ftr H_fa.out f4
 clear H_d1 H_d2 H_fa f4
 have hs1 := s1
 have hs2 := s2
 obtain ⟨na, va, la, da, dla, rfl, xa1, xa2, xa3, xa4, xa5, xa6⟩ := s1
 obtain ⟨nb, vb, lb, db, dlb, rfl, xb1, xb2, xb3, xb4, xb5, xb6⟩ := s2
 obtain ⟨aa, ca, rfl⟩ := xa1.form
 obtain ⟨ab, cb, rfl⟩ := xb1.form
 obtain ⟨ac, cc, rfl⟩ := xa5.form
 obtain ⟨ad, cd, rfl⟩ := xb5.form
 clear xa1 xa2 xa3 xa4 xa5 xa6 xb1 xb2 xb3 xb4 xb5 xb6
 generalize la.length = ln1 at *
 generalize lb.length = ln2 at *
 generalize dla.length = ln3 at *
 generalize dlb.length = ln4 at *
 clear la lb dla dlb
 obtain ⟨y1, hy1⟩ : ∃ y1, y1 = bstr (wdig z1) := ⟨_, rfl⟩
 obtain ⟨y2, hy2⟩ : ∃ y2, y2 = bstr (wdig z2) := ⟨_, rfl⟩
 rw [← hy1, ← hy2]
 obtain ⟨h, hh⟩ : ∃ h, h = w4.heap.size := ⟨_, rfl⟩
 have ba := boxes2 w4 #[.bool false, .slice none 0 0, .slice none 0 0] #[.bool false, .slice none 0 0, .slice none 0 0] 30 30 h hh
 clear H_hz1 H_hz2 H_har
 have H_d1 := hid d1; have H_d2 := hid d2; have H_fa := hid fa; have H_q1 := hid q1; have H_q2 := hid q2; have H_q4 := hid q4; have H_q5 := hid q5; have H_hy1 := hid hy1; have H_hy2 := hid hy2; have H_hh := hid hh; have H_ba := hid ba; have H_hs1 := hid hs1; have H_hs2 := hid hs2; clear d1 d2 fa q1 q2 q4 q5 hy1 hy2 hh ba hs1 hs2
 dsimp only
 refine (‹∀ (a : Act) (w_1 : World), wpList _ _ _ _ a w_1 → _›) _ _ ?_
 refine wl_value rfl (v := ?v1) (w' := w4) ?y1 ?r1
 case y1 => (go_simp; try with_reducible rfl)
 try simp only [Act.put, yD, yE, yF]
 refine wl_value rfl (v := ?v2) (w' := w4) ?y2 ?r2
 case y2 => (go_simp; try with_reducible rfl)
 try simp only [Act.put, yD, yE, yF]
 refine wl_value rfl (v := ?v3) (w' := w4) ?y3 ?r3
 case y3 => (go_simp; try with_reducible rfl)
 try simp only [Act.put, yD, yE, yF]
 refine wl_value rfl (v := ?v4) (w' := w4) ?y4 ?r4
 case y4 => (go_simp; try with_reducible rfl)
 try simp only [Act.put, yD, yE, yF]
 refine wl_value rfl (v := ?v5) (w' := w4) ?y5 ?r5
 case y5 => (go_simp; try with_reducible rfl)
 try simp only [Act.put, yD, yE, yF]
 refine wl_value rfl (v := .pointer (some ⟨h, 0, none⟩)) (w' := w4.alloc (.cells #[.bool false, .slice none 0 0, .slice none 0 0] 30 (0, 0))) ?y6 ?r6
 case y6 => (have hh := H_hh.out; go_simp)
 try simp only [Act.put, yD, yE, yF]
 refine wl_value rfl (v := .pointer (some ⟨h + 1, 0, none⟩)) (w' := (w4.alloc (.cells #[.bool false, .slice none 0 0, .slice none 0 0] 30 (0, 0))).alloc (.cells #[.bool false, .slice none 0 0, .slice none 0 0] 30 (0, 0))) ?y7 ?r7
 case y7 => (have hh := H_hh.out; go_simp)
 try simp only [Act.put, yD, yE, yF]
 generalize hw5 : (w4.alloc _).alloc _ = w5
 obtain ⟨r5, r6, f5⟩ := H_ba.out w5 hw5
 have hlt1 := lt_of_row H_d1.out
 have hlt2 := lt_of_row H_d2.out
 rw [← H_hh.out] at hlt1 hlt2
 have d1 := rfr H_d1.out f5
 have d2 := rfr H_d2.out f5
 have fa := ftr H_fa.out f5
 clear H_d1 H_d2 H_fa
 have hs1 := H_hs1.out.fresh f5
 have hs2 := H_hs2.out.fresh f5
 clear H_hs1 H_hs2
 have c1 := d1
 have c2 := d2
 have c3 := r5
 have c4 := r6
 have H_d1 := hid d1; have H_d2 := hid d2; have H_r5 := hid r5; have H_r6 := hid r6; have H_fa := hid fa; have H_hw5 := hid hw5; have H_f5 := hid f5; have H_hlt1 := hid hlt1; have H_hlt2 := hid hlt2; have H_hs1 := hid hs1; have H_hs2 := hid hs2; have H_c1 := hid c1; have H_c2 := hid c2; have H_c3 := hid c3; have H_c4 := hid c4; clear d1 d2 r5 r6 fa hw5 f5 hlt1 hlt2 hs1 hs2 c1 c2 c3 c4
 obtain ⟨W8_, hW8⟩ : ∃ W, W = ((w5.setCell ⟨g, 0, none⟩ (.string y1)).setCell ⟨g, 1, none⟩ (.int .i64 e1)) := ⟨_, rfl⟩
 refine wl_skip rfl (w' := W8_) ?y8 ?r8
 case y8 => (rw [hW8]; have p0 := rwc H_d1.out 0; have p1 := rwc H_d1.out 1; simp at p0 p1; have q0 : w5.frozen? ⟨g, 0, none⟩ = false := frozen_of_row _ _ _ _ _ H_d1.out; have q1 : w5.frozen? ⟨g, 1, none⟩ = false := frozen_of_row _ _ _ _ _ H_d1.out; go_simp; try with_reducible rfl)
 try simp only [Act.put]
 have d1 : W8_.heap[g]? = some (.cells #[.string y1, .int .i64 e1] 23 (0, 0)) := by rw [hW8]; exact (rst (rst H_d1.out))
 have d2 : W8_.heap[g + 1]? = some (.cells #[.string t2, .int .i64 x2] 23 (0, 0)) := by rw [hW8]; exact (rsn (by have := H_hlt1.out; have := H_hlt2.out; omega) (rsn (by have := H_hlt1.out; have := H_hlt2.out; omega) H_d2.out))
 have r5 : W8_.heap[h]? = some (.cells #[.bool false, .slice none 0 0, .slice none 0 0] 30 (0, 0)) := by rw [hW8]; exact (rsn (by have := H_hlt1.out; have := H_hlt2.out; omega) (rsn (by have := H_hlt1.out; have := H_hlt2.out; omega) H_r5.out))
 have r6 : W8_.heap[h + 1]? = some (.cells #[.bool false, .slice none 0 0, .slice none 0 0] 30 (0, 0)) := by rw [hW8]; exact (rsn (by have := H_hlt1.out; have := H_hlt2.out; omega) (rsn (by have := H_hlt1.out; have := H_hlt2.out; omega) H_r6.out))
 have hf8 : Fresh w W8_ := by
  rw [hW8]
  have h1 := H_hg.out; have h2 := H_hlt1.out; have h3 := H_hlt2.out
  exact (H_fa.out.setCell (p := ⟨g, 0, none⟩) (fun hk => by change g < w.heap.size at hk; omega) _).setCell (p := ⟨g, 1, none⟩) (fun hk => by change g < w.heap.size at hk; omega) _
 clear H_d1 H_d2 H_r5 H_r6 H_fa
 have fa := hf8
 clear hf8
 have hS8 := hW8
 clear hW8
 have H_d1 := hid d1; have H_d2 := hid d2; have H_r5 := hid r5; have H_r6 := hid r6; have H_fa := hid fa; have H_hS8 := hid hS8; clear d1 d2 r5 r6 fa hS8
 obtain ⟨W9_, hW9⟩ : ∃ W, W = ((W8_.setCell ⟨g + 1, 0, none⟩ (.string y2)).setCell ⟨g + 1, 1, none⟩ (.int .i64 e2)) := ⟨_, rfl⟩
 refine wl_skip rfl (w' := W9_) ?y9 ?r9
 case y9 => (rw [hW9]; have p0 := rwc H_d2.out 0; have p1 := rwc H_d2.out 1; simp at p0 p1; have q0 : W8_.frozen? ⟨g + 1, 0, none⟩ = false := frozen_of_row _ _ _ _ _ H_d2.out; have q1 : W8_.frozen? ⟨g + 1, 1, none⟩ = false := frozen_of_row _ _ _ _ _ H_d2.out; go_simp; try with_reducible rfl)
 try simp only [Act.put]
 have d1 : W9_.heap[g]? = some (.cells #[.string y1, .int .i64 e1] 23 (0, 0)) := by rw [hW9]; exact (rsn (by have := H_hlt1.out; have := H_hlt2.out; omega) (rsn (by have := H_hlt1.out; have := H_hlt2.out; omega) H_d1.out))
 have d2 : W9_.heap[g + 1]? = some (.cells #[.string y2, .int .i64 e2] 23 (0, 0)) := by rw [hW9]; exact (rst (rst H_d2.out))
 have r5 : W9_.heap[h]? = some (.cells #[.bool false, .slice none 0 0, .slice none 0 0] 30 (0, 0)) := by rw [hW9]; exact (rsn (by have := H_hlt1.out; have := H_hlt2.out; omega) (rsn (by have := H_hlt1.out; have := H_hlt2.out; omega) H_r5.out))
 have r6 : W9_.heap[h + 1]? = some (.cells #[.bool false, .slice none 0 0, .slice none 0 0] 30 (0, 0)) := by rw [hW9]; exact (rsn (by have := H_hlt1.out; have := H_hlt2.out; omega) (rsn (by have := H_hlt1.out; have := H_hlt2.out; omega) H_r6.out))
 have hf9 : Fresh w W9_ := by
  rw [hW9]
  have h1 := H_hg.out; have h2 := H_hlt1.out; have h3 := H_hlt2.out
  exact (H_fa.out.setCell (p := ⟨g + 1, 0, none⟩) (fun hk => by change g + 1 < w.heap.size at hk; omega) _).setCell (p := ⟨g + 1, 1, none⟩) (fun hk => by change g + 1 < w.heap.size at hk; omega) _
 clear H_d1 H_d2 H_r5 H_r6 H_fa
 have fa := hf9
 clear hf9
 have hS9 := hW9
 clear hW9
 have H_d1 := hid d1; have H_d2 := hid d2; have H_r5 := hid r5; have H_r6 := hid r6; have H_fa := hid fa; have H_hS9 := hid hS9; clear d1 d2 r5 r6 fa hS9
 obtain ⟨W10_, hW10⟩ : ∃ W, W = (((W9_.setCell ⟨h, 0, none⟩ (.bool na)).setCell ⟨h, 1, none⟩ (.slice aa ln1 ca)).setCell ⟨h, 2, none⟩ (.slice ac ln3 cc)) := ⟨_, rfl⟩
 refine wl_skip rfl (w' := W10_) ?y10 ?r10
 case y10 => (rw [hW10]; have p0 := rwc H_r5.out 0; have p1 := rwc H_r5.out 1; have p2 := rwc H_r5.out 2; simp at p0 p1 p2; have q0 : W9_.frozen? ⟨h, 0, none⟩ = false := frozen_of_row _ _ _ _ _ H_r5.out; have q1 : W9_.frozen? ⟨h, 1, none⟩ = false := frozen_of_row _ _ _ _ _ H_r5.out; have q2 : W9_.frozen? ⟨h, 2, none⟩ = false := frozen_of_row _ _ _ _ _ H_r5.out; go_simp; try with_reducible rfl)
 try simp only [Act.put]
 have d1 : W10_.heap[g]? = some (.cells #[.string y1, .int .i64 e1] 23 (0, 0)) := by rw [hW10]; exact (rsn (by have := H_hlt1.out; have := H_hlt2.out; omega) (rsn (by have := H_hlt1.out; have := H_hlt2.out; omega) (rsn (by have := H_hlt1.out; have := H_hlt2.out; omega) H_d1.out)))
 have d2 : W10_.heap[g + 1]? = some (.cells #[.string y2, .int .i64 e2] 23 (0, 0)) := by rw [hW10]; exact (rsn (by have := H_hlt1.out; have := H_hlt2.out; omega) (rsn (by have := H_hlt1.out; have := H_hlt2.out; omega) (rsn (by have := H_hlt1.out; have := H_hlt2.out; omega) H_d2.out)))
 have r5 : W10_.heap[h]? = some (.cells #[.bool na, .slice aa ln1 ca, .slice ac ln3 cc] 30 (0, 0)) := by rw [hW10]; exact (rst (rst (rst H_r5.out)))
 have r6 : W10_.heap[h + 1]? = some (.cells #[.bool false, .slice none 0 0, .slice none 0 0] 30 (0, 0)) := by rw [hW10]; exact (rsn (by have := H_hlt1.out; have := H_hlt2.out; omega) (rsn (by have := H_hlt1.out; have := H_hlt2.out; omega) (rsn (by have := H_hlt1.out; have := H_hlt2.out; omega) H_r6.out)))
 have hf10 : Fresh w W10_ := by
  rw [hW10]
  have h1 := H_hg.out; have h2 := H_hlt1.out; have h3 := H_hlt2.out
  exact Fresh.set3 H_fa.out (by omega)
 clear H_d1 H_d2 H_r5 H_r6 H_fa
 have fa := hf10
 clear hf10
 have hS10 := hW10
 clear hW10
 have H_d1 := hid d1; have H_d2 := hid d2; have H_r5 := hid r5; have H_r6 := hid r6; have H_fa := hid fa; have H_hS10 := hid hS10; clear d1 d2 r5 r6 fa hS10
 obtain ⟨W11_, hW11⟩ : ∃ W, W = (((W10_.setCell ⟨h + 1, 0, none⟩ (.bool nb)).setCell ⟨h + 1, 1, none⟩ (.slice ab ln2 cb)).setCell ⟨h + 1, 2, none⟩ (.slice ad ln4 cd)) := ⟨_, rfl⟩
 refine wl_skip rfl (w' := W11_) ?y11 ?r11
 case y11 => (rw [hW11]; have p0 := rwc H_r6.out 0; have p1 := rwc H_r6.out 1; have p2 := rwc H_r6.out 2; simp at p0 p1 p2; have q0 : W10_.frozen? ⟨h + 1, 0, none⟩ = false := frozen_of_row _ _ _ _ _ H_r6.out; have q1 : W10_.frozen? ⟨h + 1, 1, none⟩ = false := frozen_of_row _ _ _ _ _ H_r6.out; have q2 : W10_.frozen? ⟨h + 1, 2, none⟩ = false := frozen_of_row _ _ _ _ _ H_r6.out; go_simp; try with_reducible rfl)
 try simp only [Act.put]
 have d1 : W11_.heap[g]? = some (.cells #[.string y1, .int .i64 e1] 23 (0, 0)) := by rw [hW11]; exact (rsn (by have := H_hlt1.out; have := H_hlt2.out; omega) (rsn (by have := H_hlt1.out; have := H_hlt2.out; omega) (rsn (by have := H_hlt1.out; have := H_hlt2.out; omega) H_d1.out)))
 have d2 : W11_.heap[g + 1]? = some (.cells #[.string y2, .int .i64 e2] 23 (0, 0)) := by rw [hW11]; exact (rsn (by have := H_hlt1.out; have := H_hlt2.out; omega) (rsn (by have := H_hlt1.out; have := H_hlt2.out; omega) (rsn (by have := H_hlt1.out; have := H_hlt2.out; omega) H_d2.out)))
 have r5 : W11_.heap[h]? = some (.cells #[.bool na, .slice aa ln1 ca, .slice ac ln3 cc] 30 (0, 0)) := by rw [hW11]; exact (rsn (by have := H_hlt1.out; have := H_hlt2.out; omega) (rsn (by have := H_hlt1.out; have := H_hlt2.out; omega) (rsn (by have := H_hlt1.out; have := H_hlt2.out; omega) H_r5.out)))
 have r6 : W11_.heap[h + 1]? = some (.cells #[.bool nb, .slice ab ln2 cb, .slice ad ln4 cd] 30 (0, 0)) := by rw [hW11]; exact (rst (rst (rst H_r6.out)))
 have hf11 : Fresh w W11_ := by
  rw [hW11]
  have h1 := H_hg.out; have h2 := H_hlt1.out; have h3 := H_hlt2.out
  exact Fresh.set3 H_fa.out (by omega)
 clear H_d1 H_d2 H_r5 H_r6 H_fa
 have fa := hf11
 clear hf11
 have hS11 := hW11
 clear hW11
 have H_d1 := hid d1; have H_d2 := hid d2; have H_r5 := hid r5; have H_r6 := hid r6; have H_fa := hid fa; have H_hS11 := hid hS11; clear d1 d2 r5 r6 fa hS11
 obtain ⟨-, -, -, -, hsf, -⟩ := four_rows (by omega) (by have := H_hlt1.out; omega) (by have := H_hlt1.out; omega) (by have := H_hlt2.out; omega) (by have := H_hlt2.out; omega) (by omega) H_c1.out H_c2.out H_c3.out H_c4.out _ _ _ _ _ _ _ _ _ _ (by intro n; simp [wd]) (by intro n; simp [wd]) (by intro n; simp [wd]) (by intro n; simp [wd]) W11_ (by rw [H_hS11.out, H_hS10.out, H_hS9.out, H_hS8.out])
 have hs1 := hsf _ _ _ H_hs1.out
 have hs2 := hsf _ _ _ H_hs2.out
 clear H_hs1 H_hs2 hsf H_c1 H_c2 H_c3 H_c4 H_hS8 H_hS9 H_hS10 H_hS11 H_hw5 H_f5 H_ba
 have k0 := rwc H_d1.out 0
 have k1 := rwc H_d1.out 1
 have k2 := rwc H_d2.out 0
 have k3 := rwc H_d2.out 1
 simp at k0 k1 k2 k3
 have H_hs1 := hid hs1; have H_hs2 := hid hs2; clear hs1 hs2
 go_wp2_with (fail)
 by_cases h0 : z2 = 0
 · obtain ⟨hop, hiz⟩ := FnDecDiv_zero z1 e1 z2 e2 H_q1.out H_q2.out H_q4.out H_q5.out h0
   rw [← H_hy1.out, ← H_hy2.out] at hop
   have hs1 := H_hs1.out
   have hs2 := H_hs2.out
   clear H_hs1 H_hs2 H_hy1 H_hy2 H_q1 H_q2 H_q4 H_q5 h0
   obtain ⟨N2, hN2⟩ : ∃ N2, dnum z2 e2 = N2 := ⟨_, rfl⟩
   obtain ⟨D2, hD2⟩ : ∃ D2, dden e2 = D2 := ⟨_, rfl⟩
   rw [hN2, hD2] at hs2
   simp only [hN2, hD2] at hiz
   clear hN2 hD2
   have H_hs2 := hid hs2
   clear hs2
   clear hs1
   have H_hop := hid hop
   clear hop
   have H_hiz := hid hiz
   clear hiz
   refine (H_hop.out _ (H_hG.out.fresh H_fa.out) (H_hV.out.fresh H_fa.out)).mono ?_
   rintro r w12 ⟨rfl, f12⟩
   clear k0 k1 k2 k3
   obtain ⟨h7, hh7⟩ : ∃ k, k = w12.heap.size := ⟨_, rfl⟩
   have r5 := rfr H_r5.out f12
   have r6 := rfr H_r6.out f12
   clear H_r5 H_r6
   have aj0 := rwc r6 0
   have aj1 := rwc r6 1
   have aj2 := rwc r6 2
   simp at aj0 aj1 aj2
   have b0 := fun o => cfr aj0 ((Keep.refl (fun _ => False) w12).alloc o)
   have b1 := fun o => cfr aj1 ((Keep.refl (fun _ => False) w12).alloc o)
   have b2 := fun o => cfr aj2 ((Keep.refl (fun _ => False) w12).alloc o)
   clear aj0 aj1 aj2
   have H_f12 := hid f12
   clear f12
   have H_hh7 := hid hh7
   clear hh7
   have H_r5 := hid r5
   clear r5
   have H_r6 := hid r6
   clear r6
   go_wp2_with (fail)
   clear b0 b1 b2
   generalize hw13 : w12.alloc _ = w13
   rw [← H_hh7.out]
   have f13 : Fresh w12 w13 := by rw [← hw13]; exact (Keep.refl _ _).alloc _
   have r7 : w13.heap[h7]? = some (.cells #[.string ⟨#[]⟩, .int .i64 0] 23 (0, 0)) := by rw [← hw13, H_hh7.out]; exact heap_alloc_new w12 _
   have r5 := rfr H_r5.out f13
   have r6 := rfr H_r6.out f13
   have f13 := ftr H_f12.out f13
   have fa := ftr H_fa.out f13
   have hs2 := H_hs2.out.fresh f13
   clear H_r5 H_r6 H_fa H_hs2 H_f12 H_d1 H_d2
   have H_fa := hid fa
   clear fa
   have H_f13 := hid f13
   clear f13
   refine (H_hiz.out _ _ hs2).mono ?_
   rintro r w14 ⟨rfl, f14⟩
   have fa := ftr H_fa.out f14
   have H_fa2 := hid fa
   clear fa f14 r5 r6 r7
   go_wp2_with (fail)
   go_ret
   exact ⟨rfl, H_fa2.out⟩
 · obtain ⟨zr, er, q, m, N, D, M, K, hop, hiz, hdv, hrd, hfc, hsy⟩ := FnDecDiv_facts z1 e1 z2 e2 H_q1.out H_q2.out H_q4.out H_q5.out h0
   rw [← H_hy1.out, ← H_hy2.out] at hop
   have hs1 := H_hs1.out
   have hs2 := H_hs2.out
   clear H_hs1 H_hs2 H_hy1 H_hy2 H_q1 H_q2 H_q4 H_q5 h0
   generalize bstr (wdig zr) = yr at *
   obtain ⟨N1, hN1⟩ : ∃ N1, dnum z1 e1 = N1 := ⟨_, rfl⟩
   obtain ⟨D1, hD1⟩ : ∃ D1, dden e1 = D1 := ⟨_, rfl⟩
   obtain ⟨N2, hN2⟩ : ∃ N2, dnum z2 e2 = N2 := ⟨_, rfl⟩
   obtain ⟨D2, hD2⟩ : ∃ D2, dden e2 = D2 := ⟨_, rfl⟩
   rw [hN1, hD1] at hs1
   rw [hN2, hD2] at hs2
   simp only [hN1, hD1, hN2, hD2] at hiz hdv
   clear hN1 hD1 hN2 hD2
   have H_hs2 := hid hs2
   clear hs2
   have H_hs1 := hid hs1
   clear hs1
   have H_hop := hid hop
   clear hop
   have H_hiz := hid hiz
   clear hiz
   have H_hdv := hid hdv
   clear hdv
   have H_hrd := hid hrd
   clear hrd
   have H_hfc := hid hfc
   clear hfc
   have H_hsy := hid hsy
   clear hsy
   refine (H_hop.out _ (H_hG.out.fresh H_fa.out) (H_hV.out.fresh H_fa.out)).mono ?_
   rintro r w12 ⟨rfl, f12⟩
   clear k0 k1 k2 k3
   obtain ⟨h7, hh7⟩ : ∃ k, k = w12.heap.size := ⟨_, rfl⟩
   have r5 := rfr H_r5.out f12
   have r6 := rfr H_r6.out f12
   clear H_r5 H_r6
   have aj0 := rwc r6 0
   have aj1 := rwc r6 1
   have aj2 := rwc r6 2
   simp at aj0 aj1 aj2
   have b0 := fun o => cfr aj0 ((Keep.refl (fun _ => False) w12).alloc o)
   have b1 := fun o => cfr aj1 ((Keep.refl (fun _ => False) w12).alloc o)
   have b2 := fun o => cfr aj2 ((Keep.refl (fun _ => False) w12).alloc o)
   clear aj0 aj1 aj2
   have H_f12 := hid f12
   clear f12
   have H_hh7 := hid hh7
   clear hh7
   have H_r5 := hid r5
   clear r5
   have H_r6 := hid r6
   clear r6
   go_wp2_with (fail)
   clear b0 b1 b2
   generalize hw13 : w12.alloc _ = w13
   rw [← H_hh7.out]
   have f13 : Fresh w12 w13 := by rw [← hw13]; exact (Keep.refl _ _).alloc _
   have r7 : w13.heap[h7]? = some (.cells #[.string yr, .int .i64 er] 23 (0, 0)) := by rw [← hw13, H_hh7.out]; exact heap_alloc_new w12 _
   have r5 := rfr H_r5.out f13
   have r6 := rfr H_r6.out f13
   have f13 := ftr H_f12.out f13
   have fa := ftr H_fa.out f13
   have hs2 := H_hs2.out.fresh f13
   have hs1 := H_hs1.out.fresh f13
   clear H_r5 H_r6 H_fa H_hs2 H_hs1 H_f12 H_d1 H_d2
   have H_fa := hid fa
   clear fa
   have H_f13 := hid f13
   clear f13
   refine (H_hiz.out _ _ hs2).mono ?_
   rintro r w14 ⟨rfl, f14⟩
   have r5 := rfr r5 f14
   have r6 := rfr r6 f14
   have r7 := rfr r7 f14
   have fa := ftr H_fa.out f14
   have hs1 := hs1.fresh f14
   have hs2 := hs2.fresh f14
   clear H_fa
   have k0 := rwc r7 0
   have k1 := rwc r7 1
   have k2 := rwc r5 0
   have k3 := rwc r5 1
   have k4 := rwc r5 2
   have k5 := rwc r6 0
   have k6 := rwc r6 1
   have k7 := rwc r6 2
   simp at k0 k1 k2 k3 k4 k5 k6 k7
   have H_r5 := hid r5
   clear r5
   have H_r6 := hid r6
   clear r6
   have H_r7 := hid r7
   clear r7
   have H_fa := hid fa
   clear fa
   have H_f14 := hid f14
   clear f14
   have H_hs1 := hid hs1
   clear hs1
   have H_hs2 := hid hs2
   clear hs2
   have H_hw13 := hid hw13
   clear hw13
   go_wp2_with (fail)
   refine rgE (S := (fun (w' : World) => w'.cell? ⟨h7, 0, none⟩ = some (.string yr) ∧ w'.cell? ⟨h7, 1, none⟩ = some (.int .i64 er) ∧ w'.cell? ⟨h, 0, none⟩ = some (.bool na) ∧ w'.cell? ⟨h, 1, none⟩ = some (.slice aa ln1 ca) ∧ w'.cell? ⟨h, 2, none⟩ = some (.slice ac ln3 cc) ∧ w'.cell? ⟨h + 1, 0, none⟩ = some (.bool nb) ∧ w'.cell? ⟨h + 1, 1, none⟩ = some (.slice ab ln2 cb) ∧ w'.cell? ⟨h + 1, 2, none⟩ = some (.slice ad ln4 cd))) 11 (by kernel_rfl) (by exact ⟨k0, k1, k2, k3, k4, k5, k6, k7⟩) (fun hHeld => ?_)
   refine tkP (i := 0) (v := ?v0_1) rfl (by kernel_rfl) (fun _ _ _ h => h) ⟨by rfl, ?y0_1⟩ (by assumption) ?r0_1
   case y0_1 => (intro w; go_simp; try with_reducible rfl)
   try simp only [Act.put, yA, yB, yD, yE, yF]
   refine tkP (i := 1) (v := .bool true) rfl (by kernel_rfl) (fun _ _ _ h => h) ⟨by rfl, ?y1_1⟩ (by assumption) ?r1_1
   case y1_1 => (intro w; go_simp)
   try simp only [Act.put, yA, yB, yC, yD, yE, yF]
   refine tkP (i := 2) (v := .bool true) rfl (by kernel_rfl) (fun _ _ _ h => h) ⟨by rfl, ?y2_1⟩ (by assumption) ?r2_1
   case y2_1 => (intro w; go_simp)
   try simp only [Act.put, yA, yB, yC, yD, yE, yF]
   refine tkL (i := 3) (c := 9) (v := ?v3_1) rfl (by kernel_rfl) (fun _ _ _ h => h) ⟨by rfl, ?y3_1⟩ (by assumption) ?r3_1
   case y3_1 => (intro w hSw; go_split_ands; go_simp; try with_reducible rfl)
   try simp only [Act.put, yA, yB, yC, yD, yE, yF]
   refine tkL (i := 4) (c := 6) (v := ?v4_1) rfl (by kernel_rfl) (fun _ _ _ h => h) ⟨by rfl, ?y4_1⟩ (by assumption) ?r4_1
   case y4_1 => (intro w hSw; go_split_ands; go_simp; try with_reducible rfl)
   try simp only [Act.put, yA, yB, yC, yD, yE, yF]
   refine tkL (i := 5) (c := 6) (v := ?v5_1) rfl (by kernel_rfl) (fun _ _ _ h => h) ⟨by rfl, ?y5_1⟩ (by assumption) ?r5_1
   case y5_1 => (intro w hSw; go_split_ands; go_simp; try with_reducible rfl)
   try simp only [Act.put, yA, yB, yC, yD, yE, yF]
   refine tkO (i := 6) rfl (by kernel_rfl) (fun K hK => ?_)
   go_simp
   refine (H_hdv.out _ _ _ (H_hs1.out.fresh ?c1) (H_hs2.out.fresh ?c2)).mono ?_; (case c1 => exact (Keep.refl _ _).drew); (case c2 => exact (Keep.refl _ _).drew); rintro r y_1 ⟨xw, rfl, hx, r⟩; have y := r.of_drew; have c1_k0 := cfr k0 y; have c1_k1 := cfr k1 y; have c1_k2 := cfr k2 y; have c1_k3 := cfr k3 y; have c1_k4 := cfr k4 y; have c1_k5 := cfr k5 y; have c1_k6 := cfr k6 y; have c1_k7 := cfr k7 y; have H_y1 := hid y; have H_x1 := hid hx; clear hx; clear y r
   go_wp2_with (fail)
   have hHeld1 : ((fun (w' : World) => w'.cell? ⟨h7, 0, none⟩ = some (.string yr) ∧ w'.cell? ⟨h7, 1, none⟩ = some (.int .i64 er) ∧ w'.cell? ⟨h, 0, none⟩ = some (.bool na) ∧ w'.cell? ⟨h, 1, none⟩ = some (.slice aa ln1 ca) ∧ w'.cell? ⟨h, 2, none⟩ = some (.slice ac ln3 cc) ∧ w'.cell? ⟨h + 1, 0, none⟩ = some (.bool nb) ∧ w'.cell? ⟨h + 1, 1, none⟩ = some (.slice ab ln2 cb) ∧ w'.cell? ⟨h + 1, 2, none⟩ = some (.slice ad ln4 cd))) _ := ⟨c1_k0, c1_k1, c1_k2, c1_k3, c1_k4, c1_k5, c1_k6, c1_k7⟩
   refine hK.out _ _ (fun _ => hHeld1) ?_
   clear hK K
   try simp only [Act.put, yA, yB, yC, yD, yE, yF]
   refine tkO (i := 7) rfl (by kernel_rfl) (fun K hK => ?_)
   go_simp
   refine (H_hrd.out _ _ H_x1.out).mono ?_; rintro r y_2 ⟨xw2, rfl, hx, r⟩; have y := r; have c2_k0 := cfr c1_k0 y; have c2_k1 := cfr c1_k1 y; have c2_k2 := cfr c1_k2 y; have c2_k3 := cfr c1_k3 y; have c2_k4 := cfr c1_k4 y; have c2_k5 := cfr c1_k5 y; have c2_k6 := cfr c1_k6 y; have c2_k7 := cfr c1_k7 y; have H_y2 := hid (ftr H_y1.out y); have H_x2 := hid hx; clear hx; clear y r
   go_wp2_with (fail)
   have hHeld2 : ((fun (w' : World) => w'.cell? ⟨h7, 0, none⟩ = some (.string yr) ∧ w'.cell? ⟨h7, 1, none⟩ = some (.int .i64 er) ∧ w'.cell? ⟨h, 0, none⟩ = some (.bool na) ∧ w'.cell? ⟨h, 1, none⟩ = some (.slice aa ln1 ca) ∧ w'.cell? ⟨h, 2, none⟩ = some (.slice ac ln3 cc) ∧ w'.cell? ⟨h + 1, 0, none⟩ = some (.bool nb) ∧ w'.cell? ⟨h + 1, 1, none⟩ = some (.slice ab ln2 cb) ∧ w'.cell? ⟨h + 1, 2, none⟩ = some (.slice ad ln4 cd))) _ := ⟨c2_k0, c2_k1, c2_k2, c2_k3, c2_k4, c2_k5, c2_k6, c2_k7⟩
   refine hK.out _ _ (fun _ => hHeld2) ?_
   clear hK K
   try simp only [Act.put, yA, yB, yC, yD, yE, yF]
   refine tkO (i := 8) rfl (by kernel_rfl) (fun K hK => ?_)
   go_simp
   refine (H_hfc.out _ _ H_x2.out).mono ?_; rintro r y_3 ⟨xw3, rfl, hx, r⟩; have y := r; have c3_k0 := cfr c2_k0 y; have c3_k1 := cfr c2_k1 y; have c3_k2 := cfr c2_k2 y; have c3_k3 := cfr c2_k3 y; have c3_k4 := cfr c2_k4 y; have c3_k5 := cfr c2_k5 y; have c3_k6 := cfr c2_k6 y; have c3_k7 := cfr c2_k7 y; have H_y3 := hid (ftr H_y2.out y); have H_x3 := hid hx; clear hx; clear y r
   go_wp2_with (fail)
   have hHeld3 : ((fun (w' : World) => w'.cell? ⟨h7, 0, none⟩ = some (.string yr) ∧ w'.cell? ⟨h7, 1, none⟩ = some (.int .i64 er) ∧ w'.cell? ⟨h, 0, none⟩ = some (.bool na) ∧ w'.cell? ⟨h, 1, none⟩ = some (.slice aa ln1 ca) ∧ w'.cell? ⟨h, 2, none⟩ = some (.slice ac ln3 cc) ∧ w'.cell? ⟨h + 1, 0, none⟩ = some (.bool nb) ∧ w'.cell? ⟨h + 1, 1, none⟩ = some (.slice ab ln2 cb) ∧ w'.cell? ⟨h + 1, 2, none⟩ = some (.slice ad ln4 cd))) _ := ⟨c3_k0, c3_k1, c3_k2, c3_k3, c3_k4, c3_k5, c3_k6, c3_k7⟩
   refine hK.out _ _ (fun _ => hHeld3) ?_
   clear hK K
   try simp only [Act.put, yA, yB, yC, yD, yE, yF]
   refine tkO (i := 9) rfl (by kernel_rfl) (fun K hK => ?_)
   go_simp
   refine (H_hsy.out _ _ H_x3.out).mono ?_; rintro r y_4 ⟨rfl, r⟩; have y := r; have c4_k0 := cfr c3_k0 y; have c4_k1 := cfr c3_k1 y; have c4_k2 := cfr c3_k2 y; have c4_k3 := cfr c3_k3 y; have c4_k4 := cfr c3_k4 y; have c4_k5 := cfr c3_k5 y; have c4_k6 := cfr c3_k6 y; have c4_k7 := cfr c3_k7 y; have H_y4 := hid (ftr H_y3.out y); clear y r
   go_wp2_with (fail)
   have hHeld4 : ((fun (w' : World) => w'.cell? ⟨h7, 0, none⟩ = some (.string yr) ∧ w'.cell? ⟨h7, 1, none⟩ = some (.int .i64 er) ∧ w'.cell? ⟨h, 0, none⟩ = some (.bool na) ∧ w'.cell? ⟨h, 1, none⟩ = some (.slice aa ln1 ca) ∧ w'.cell? ⟨h, 2, none⟩ = some (.slice ac ln3 cc) ∧ w'.cell? ⟨h + 1, 0, none⟩ = some (.bool nb) ∧ w'.cell? ⟨h + 1, 1, none⟩ = some (.slice ab ln2 cb) ∧ w'.cell? ⟨h + 1, 2, none⟩ = some (.slice ad ln4 cd))) _ := ⟨c4_k0, c4_k1, c4_k2, c4_k3, c4_k4, c4_k5, c4_k6, c4_k7⟩
   refine hK.out _ _ (fun _ => hHeld4) ?_
   clear hK K
   try simp only [Act.put, yA, yB, yC, yD, yE, yF]
   refine tkP (i := 10) (v := .bool true) rfl (by kernel_rfl) (fun _ _ _ h => h) ⟨by rfl, ?y10_1⟩ (by assumption) ?r10_1
   case y10_1 => (intro w; go_simp)
   try simp only [Act.put, yA, yB, yC, yD, yE, yF]
   refine tkO (i := 11) rfl (by kernel_rfl) (fun K hK => ?_)
   go_simp
   refine hK.out _ _ (fun h => Bool.noConfusion (show true = false from h)) ?_
   clear hK K
   try simp only [Act.put, yA, yB, yC, yD, yE, yF]
   refine tkD (by kernel_rfl) ?_ _
   go_wp2_with (fail)
   go_ret
   exact ⟨rfl, ftr H_fa.out H_y4.out⟩

end Go.Proofs.YtllencgncinphaaGreatDoor
