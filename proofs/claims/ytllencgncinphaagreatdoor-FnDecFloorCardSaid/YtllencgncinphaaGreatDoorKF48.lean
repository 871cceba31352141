/- The walk of FnDecFloor. Printed by gen_lw1.py FnDecFloor. -/
import Derived.Test.YtllencgncinphaaGreatDoorTie
import Derived.Test.YtllencgncinphaaGreatDoorCards
import Derived.SevenTiedAt
import Derived.Test.YtllencgncinphaaGreatDoorKF7
import Derived.Test.YtllencgncinphaaGreatDoorKF13
import Derived.Test.YtllencgncinphaaGreatDoorKF47
namespace Go.Proofs.YtllencgncinphaaGreatDoor
open Go.RowKit Go Go.ChangeShapes Go.WideShapes Go.ChangeAt Go.Lib Go.Joins
open Go.Lib (hid)

set_option maxRecDepth 20000 in
set_option maxHeartbeats 2000000 in
theorem FnDecFloor_out (t1 : ByteArray) (x1 : Int) (w : World) (h1 : t1.size ≤ 9223372036854775807) (h : ¬ t1.size ≤ 2147483647) :
 Calls Tryz.prog 7 #[.agg #[.string t1, .int .i64 x1]] w (VRet w (.bool true)) := by
 have hz1 : ∀ W, Calls Tryz.prog 12 #[.agg #[.string t1, .int .i64 x1]] W (fun r w' => r = .returned (.bool false) ∧ Fresh W w') := fun W => by
  have := zzFits1_any t1 x1 W h1
  rwa [decide_eq_false h] at this
 obtain ⟨g, hg⟩ : ∃ g, g = w.heap.size := ⟨_, rfl⟩
 clear h1 h
 have H_hz1 := hid hz1; clear hz1
 go_enter Tryz.func7, Tryz.ntmps7
 go_wp2_with (fail)
 generalize hw1 : w.alloc _ = w1
 have d1 : w1.heap[g]? = some (.cells #[.string t1, .int .i64 x1] 23 (0, 0)) := by rw [← hw1, hg]; exact heap_alloc_new w _
 have fa : Fresh w w1 := by rw [← hw1]; exact (Keep.refl _ _).alloc _
 rw [← hg]
 have k0 := row_cell d1 0
 have k1 := row_cell d1 1
 simp at k0 k1
 have H_fa := hid fa; have H_hw1 := hid hw1; have H_d1 := hid d1; have H_hg := hid hg; clear fa hw1 d1 hg
 go_wp2_with (fail)
 refine (H_hz1.out _).mono ?_
 rintro e w2 ⟨rfl, f2⟩
 have f2 := fresh_trans H_fa.out f2
 clear k0 k1
 have H_f2 := hid f2; clear f2
 go_wp2_with (fail)
 go_ret
 exact ⟨rfl, H_f2.out⟩

set_option maxRecDepth 20000 in
set_option maxHeartbeats 4000000 in
theorem FnDecFloor_main (S1 : List Nat) (x1 : Int) (w : World) (hG : Glob w) (hS1 : ∀ c ∈ S1, c < 256) (hl1 : S1.length ≤ 2147483647) (hx1 : -9223372036854775808 ≤ x1 ∧ x1 ≤ 9223372036854775807) :
 Calls Tryz.prog 7 #[.agg #[.string (bstr S1), .int .i64 x1]] w (VRet w (.bool true)) := by
 have hz1 : ∀ W, Calls Tryz.prog 12 #[.agg #[.string (bstr S1), .int .i64 x1]] W (fun r w' => r = .returned (.bool true) ∧ Fresh W w') := fun W => by
  have := zzFits1_any (bstr S1) x1 W (by rw [bstr_size]; omega)
  rwa [show decide ((bstr S1).size ≤ 2147483647) = true by rw [bstr_size]; simpa using hl1] at this
 have har := fun W => arOne_any S1 x1 W hS1 hl1 hx1
 generalize bstr S1 = t1 at *
 clear hS1 hl1 hx1
 obtain ⟨g, hg⟩ : ∃ g, g = w.heap.size := ⟨_, rfl⟩
 have H_hz1 := hid hz1; have H_har := hid har; have H_hG := hid hG; clear hz1 har hG
 go_enter Tryz.func7, Tryz.ntmps7
 go_wp2_with (fail)
 generalize hw1 : w.alloc _ = w1
 have d1 : w1.heap[g]? = some (.cells #[.string t1, .int .i64 x1] 23 (0, 0)) := by rw [← hw1, hg]; exact heap_alloc_new w _
 have fa : Fresh w w1 := by rw [← hw1]; exact (Keep.refl _ _).alloc _
 rw [← hg]
 have k0 := row_cell d1 0
 have k1 := row_cell d1 1
 simp at k0 k1
 have H_fa := hid fa; have H_hw1 := hid hw1; have H_d1 := hid d1; have H_hg := hid hg; clear fa hw1 d1 hg
 go_wp2_with (fail)
 refine (H_hz1.out _).mono ?_
 rintro e w2 ⟨rfl, f2⟩
 have d1 := row_fresh H_d1.out f2
 have fa := fresh_trans H_fa.out f2
 clear H_d1 H_fa f2 k0 k1
 have k0 := row_cell d1 0
 have k1 := row_cell d1 1
 simp at k0 k1
 have H_d1 := hid d1; have H_fa := hid fa; clear d1 fa
 go_wp2_with (fail)
 refine (H_har.out _).mono ?_
 rintro r w4 ⟨z, e, u1, rfl, q1, q2, s1, f4⟩
 clear k0 k1
 have d1 := row_fresh H_d1.out f4
 have fa := fresh_trans H_fa.out f4
 clear H_d1 H_fa f4
 have hs1 := s1
 obtain ⟨na, va, la, da, dla, rfl, xa1, xa2, xa3, xa4, xa5, xa6⟩ := s1
 obtain ⟨aa, ca, rfl⟩ := xa1.form
 obtain ⟨ac, cc, rfl⟩ := xa5.form
 clear xa1 xa2 xa3 xa4 xa5 xa6
 generalize la.length = ln1 at *
 generalize dla.length = ln3 at *
 clear la dla
 obtain ⟨h, hh⟩ : ∃ h, h = w4.heap.size := ⟨_, rfl⟩
 clear H_hz1 H_har
 obtain ⟨y1, hy1⟩ : ∃ y1, y1 = bstr (wdig z) := ⟨_, rfl⟩
 rw [← hy1]
 have H_d1 := hid d1; have H_fa := hid fa; have H_hh := hid hh; have H_hs1 := hid hs1; have H_q1 := hid q1; have H_q2 := hid q2; have H_hy1 := hid hy1; clear d1 fa hh hs1 q1 q2 hy1
 dsimp only
 refine (‹∀ (a : Act) (w_1 : World), wpList _ _ _ _ a w_1 → _›) _ _ ?_
 refine wl_value rfl (v := ?v1) (w' := w4) ?y1 ?r1
 case y1 => (go_simp; try with_reducible rfl)
 try simp only [Act.put, yD, yE, yF]
 refine wl_value rfl (v := ?v2) (w' := w4) ?y2 ?r2
 case y2 => (go_simp; try with_reducible rfl)
 try simp only [Act.put, yD, yE, yF]
 refine wl_value rfl (v := ?v3) (w' := w4) ?y3 ?r3
 case y3 => (go_simp; try with_reducible rfl)
 try simp only [Act.put, yD, yE, yF]
 refine wl_value rfl (v := .pointer (some ⟨h, 0, none⟩)) (w' := w4.alloc (.cells #[.bool false, .slice none 0 0, .slice none 0 0] 30 (0, 0))) ?y6 ?r6
 case y6 => (have hh := H_hh.out; go_simp)
 try simp only [Act.put, yD, yE, yF]
 generalize hw5 : w4.alloc _ = w5
 have r5 : w5.heap[h]? = some (.cells #[.bool false, .slice none 0 0, .slice none 0 0] 30 (0, 0)) := by rw [← hw5, H_hh.out]; exact heap_alloc_new w4 _
 have f5 : Fresh w4 w5 := by rw [← hw5]; exact (Keep.refl _ _).alloc _
 have hlt1 := lt_of_row H_d1.out
 rw [← H_hh.out] at hlt1
 have d1 := row_fresh H_d1.out f5
 have fa := fresh_trans H_fa.out f5
 have hs1 := H_hs1.out.fresh f5
 clear H_d1 H_fa H_hs1
 have H_d1 := hid d1; have H_r5 := hid r5; have H_fa := hid fa; have H_hw5 := hid hw5; have H_f5 := hid f5; have H_hlt1 := hid hlt1; have H_hs1 := hid hs1; clear d1 r5 fa hw5 f5 hlt1 hs1
 obtain ⟨W8_, hW8⟩ : ∃ W, W = ((w5.setCell ⟨g, 0, none⟩ (.string y1)).setCell ⟨g, 1, none⟩ (.int .i64 e)) := ⟨_, rfl⟩
 refine wl_skip rfl (w' := W8_) ?y8 ?r8
 case y8 => (rw [hW8]; have p0 := row_cell H_d1.out 0; have p1 := row_cell H_d1.out 1; simp at p0 p1; have q0 : w5.frozen? ⟨g, 0, none⟩ = false := frozen_of_row _ _ _ _ _ H_d1.out; have q1 : w5.frozen? ⟨g, 1, none⟩ = false := frozen_of_row _ _ _ _ _ H_d1.out; go_simp; try with_reducible rfl)
 try simp only [Act.put]
 have r8 : W8_.heap[h]? = some (.cells #[.bool false, .slice none 0 0, .slice none 0 0] 30 (0, 0)) := by rw [hW8]; exact row_set_ne (by have := H_hlt1.out; omega) (row_set_ne (by have := H_hlt1.out; omega) H_r5.out)
 have H_r8 := hid r8; have H_hW8 := hid hW8; clear r8 hW8
 obtain ⟨W9_, hW9⟩ : ∃ W, W = (((W8_.setCell ⟨h, 0, none⟩ (.bool na)).setCell ⟨h, 1, none⟩ (.slice aa ln1 ca)).setCell ⟨h, 2, none⟩ (.slice ac ln3 cc)) := ⟨_, rfl⟩
 refine wl_skip rfl (w' := W9_) ?y9 ?r9
 case y9 => (rw [hW9]; have p0 := row_cell H_r8.out 0; have p1 := row_cell H_r8.out 1; have p2 := row_cell H_r8.out 2; simp at p0 p1 p2; have q0 : W8_.frozen? ⟨h, 0, none⟩ = false := frozen_of_row _ _ _ _ _ H_r8.out; have q1 : W8_.frozen? ⟨h, 1, none⟩ = false := frozen_of_row _ _ _ _ _ H_r8.out; have q2 : W8_.frozen? ⟨h, 2, none⟩ = false := frozen_of_row _ _ _ _ _ H_r8.out; go_simp; try with_reducible rfl)
 try simp only [Act.put]
 obtain ⟨d1, r5, hsf, hff⟩ := two_rows (by have := H_hlt1.out; omega) H_d1.out H_r5.out _ _ _ _ _ (by intro n; simp [wd]) (by intro n; simp [wd]) W9_ (by rw [hW9, H_hW8.out])
 have hs1 := hsf _ _ _ H_hs1.out
 have hgw := H_hg.out
 have hgh := H_hlt1.out
 have fa := hff w (by omega) (by omega) H_fa.out
 clear H_d1 H_r5 H_fa H_hs1 H_r8 H_hW8 hW9 hsf hff H_hw5 H_f5 hgw hgh
 have k0 := row_cell d1 0
 have k1 := row_cell d1 1
 simp at k0 k1
 have H_d1 := hid d1; have H_r5 := hid r5; have H_hs1 := hid hs1; have H_fa := hid fa; clear d1 r5 hs1 fa
 go_wp2_with (fail)
 obtain ⟨zr, er, q, zs, es, qs, hop, hop2, hrd, hfc, hsy, hrd2, hfc2, hsy2⟩ := FnDecFloor_facts z e H_q1.out H_q2.out
 rw [← H_hy1.out] at hop hop2
 obtain ⟨N1, hN1⟩ : ∃ N1, dnum z e = N1 := ⟨_, rfl⟩
 obtain ⟨D1, hD1⟩ : ∃ D1, dden e = D1 := ⟨_, rfl⟩
 have hs1 := H_hs1.out
 rw [hN1, hD1] at hs1
 rw [hN1, hD1] at hrd hrd2
 clear H_hs1 H_hy1 H_q1 H_q2 hN1 hD1
 generalize bstr (wdig zr) = yr at *
 generalize bstr (wdig zs) = ys at *
 have H_hop := hid hop; have H_hrd := hid hrd; have H_hfc := hid hfc; have H_hsy := hid hsy; have H_hop2 := hid hop2; have H_hrd2 := hid hrd2; have H_hfc2 := hid hfc2; have H_hsy2 := hid hsy2; have H_hs1 := hid hs1; clear hop hrd hfc hsy hop2 hrd2 hfc2 hsy2 hs1
 refine (H_hop.out _ (H_hG.out.fresh H_fa.out)).mono ?_
 rintro r w12 ⟨rfl, f12⟩
 clear k0 k1
 obtain ⟨h7, hhh7⟩ : ∃ k, k = w12.heap.size := ⟨_, rfl⟩
 have d1 := row_fresh H_d1.out f12
 have fa := fresh_trans H_fa.out f12
 have r5 := row_fresh H_r5.out f12
 have hs1 := H_hs1.out.fresh f12
 clear H_d1 H_fa H_r5 H_hs1 f12
 have ak0 := row_cell d1 0
 have ak1 := row_cell d1 1
 simp at ak0 ak1
 have a0 := fun o => cell_fresh ak0 ((Keep.refl (fun _ => False) w12).alloc o)
 have a1 := fun o => cell_fresh ak1 ((Keep.refl (fun _ => False) w12).alloc o)
 clear ak0 ak1
 have H_hhh7 := hid hhh7; have H_d1 := hid d1; have H_fa := hid fa; have H_r5 := hid r5; have H_hs1 := hid hs1; clear hhh7 d1 fa r5 hs1
 go_wp2_with (fail)
 generalize hw13 : w12.alloc _ = w13
 have f13 : Fresh w12 w13 := by rw [← hw13]; exact (Keep.refl _ _).alloc _
 have r7 : w13.heap[h7]? = some (.cells #[.string yr, .int .i64 er] 23 (0, 0)) := by rw [← hw13, H_hhh7.out]; exact heap_alloc_new w12 _
 rw [← H_hhh7.out]
 have d1 := row_fresh H_d1.out f13
 have fa := fresh_trans H_fa.out f13
 have r5 := row_fresh H_r5.out f13
 have hs1 := H_hs1.out.fresh f13
 clear H_d1 H_fa H_r5 H_hs1 f13
 clear a0 a1
 have k0 := row_cell d1 0
 have k1 := row_cell d1 1
 simp at k0 k1
 have H_d1 := hid d1; have H_fa := hid fa; have H_r5 := hid r5; have H_hs1 := hid hs1; have H_r7 := hid r7; have H_hw13 := hid hw13; clear d1 fa r5 hs1 r7 hw13
 refine (H_hop2.out _ (H_hG.out.fresh H_fa.out)).mono ?_
 rintro r w14 ⟨rfl, f14⟩
 clear k0 k1
 obtain ⟨h8, hhh8⟩ : ∃ k, k = w14.heap.size := ⟨_, rfl⟩
 have d1 := row_fresh H_d1.out f14
 have fa := fresh_trans H_fa.out f14
 have r5 := row_fresh H_r5.out f14
 have hs1 := H_hs1.out.fresh f14
 have r7 := row_fresh H_r7.out f14
 clear H_d1 H_fa H_r5 H_hs1 f14 H_r7
 have H_hhh8 := hid hhh8; have H_d1 := hid d1; have H_fa := hid fa; have H_r5 := hid r5; have H_hs1 := hid hs1; have H_r7 := hid r7; clear hhh8 d1 fa r5 hs1 r7
 go_wp2_with (fail)
 generalize hw15 : w14.alloc _ = w15
 have f15 : Fresh w14 w15 := by rw [← hw15]; exact (Keep.refl _ _).alloc _
 have r8 : w15.heap[h8]? = some (.cells #[.string ys, .int .i64 es] 23 (0, 0)) := by rw [← hw15, H_hhh8.out]; exact heap_alloc_new w14 _
 rw [← H_hhh8.out]
 have d1 := row_fresh H_d1.out f15
 have fa := fresh_trans H_fa.out f15
 have r5 := row_fresh H_r5.out f15
 have hs1 := H_hs1.out.fresh f15
 have r7 := row_fresh H_r7.out f15
 clear H_d1 H_fa H_r5 H_hs1 f15 H_r7
 have k2 := row_cell r7 0
 have k3 := row_cell r7 1
 have k4 := row_cell r8 0
 have k5 := row_cell r8 1
 have k6 := row_cell r5 0
 have k7 := row_cell r5 1
 have k8 := row_cell r5 2
 simp at k2 k3 k4 k5 k6 k7 k8
 have H_d1 := hid d1; have H_fa := hid fa; have H_r5 := hid r5; have H_hs1 := hid hs1; have H_r7 := hid r7; have H_r8 := hid r8; have H_hw15 := hid hw15; clear d1 fa r5 hs1 r7 r8 hw15
 refine wp_region_E (S := (fun (w' : World) => w'.cell? ⟨h7, 0, none⟩ = some (.string yr) ∧ w'.cell? ⟨h7, 1, none⟩ = some (.int .i64 er) ∧ w'.cell? ⟨h8, 0, none⟩ = some (.string ys) ∧ w'.cell? ⟨h8, 1, none⟩ = some (.int .i64 es) ∧ w'.cell? ⟨h, 0, none⟩ = some (.bool na) ∧ w'.cell? ⟨h, 1, none⟩ = some (.slice aa ln1 ca) ∧ w'.cell? ⟨h, 2, none⟩ = some (.slice ac ln3 cc))) 20 (by kernel_rfl) (by exact ⟨k2, k3, k4, k5, k6, k7, k8⟩) (fun hHeld => ?_)
 refine wpAnyE_takeP (i := 0) (v := ?v0_1) rfl (by kernel_rfl) (fun _ _ _ h => h) ⟨by rfl, ?y0_1⟩ (by assumption) ?r0_1
 case y0_1 => (intro w; go_simp; try with_reducible rfl)
 try simp only [Act.put, yA, yB, yD, yE, yF]
 refine wpAnyE_takeP (i := 1) (v := .bool true) rfl (by kernel_rfl) (fun _ _ _ h => h) ⟨by rfl, ?y1_1⟩ (by assumption) ?r1_1
 case y1_1 => (intro w; go_simp)
 try simp only [Act.put, yA, yB, yC, yD, yE, yF]
 refine wpAnyE_takeP (i := 2) (v := .bool true) rfl (by kernel_rfl) (fun _ _ _ h => h) ⟨by rfl, ?y2_1⟩ (by assumption) ?r2_1
 case y2_1 => (intro w; go_simp)
 try simp only [Act.put, yA, yB, yC, yD, yE, yF]
 refine wpAnyE_takeP (i := 3) (v := ?v3_1) rfl (by kernel_rfl) (fun _ _ _ h => h) ⟨by rfl, ?y3_1⟩ (by assumption) ?r3_1
 case y3_1 => (intro w; go_simp; try with_reducible rfl)
 try simp only [Act.put, yA, yB, yC, yD, yE, yF]
 refine wpAnyE_takeP (i := 4) (v := .bool true) rfl (by kernel_rfl) (fun _ _ _ h => h) ⟨by rfl, ?y4_1⟩ (by assumption) ?r4_1
 case y4_1 => (intro w; go_simp)
 try simp only [Act.put, yA, yB, yC, yD, yE, yF]
 refine wpAnyE_takeP (i := 5) (v := .bool true) rfl (by kernel_rfl) (fun _ _ _ h => h) ⟨by rfl, ?y5_1⟩ (by assumption) ?r5_1
 case y5_1 => (intro w; go_simp)
 try simp only [Act.put, yA, yB, yC, yD, yE, yF]
 refine wpAnyE_takeP (i := 6) (v := .bool true) rfl (by kernel_rfl) (fun _ _ _ h => h) ⟨by rfl, ?y6_1⟩ (by assumption) ?r6_1
 case y6_1 => (intro w; go_simp)
 try simp only [Act.put, yA, yB, yC, yD, yE, yF]
 refine wpAnyE_takeL (i := 7) (c := 11) (v := ?v7_1) rfl (by kernel_rfl) (fun _ _ _ h => h) ⟨by rfl, ?y7_1⟩ (by assumption) ?r7_1
 case y7_1 => (intro w hSw; go_split_ands; go_simp; try with_reducible rfl)
 try simp only [Act.put, yA, yB, yC, yD, yE, yF]
 refine wpAnyE_takeL (i := 8) (c := 9) (v := ?v8_1) rfl (by kernel_rfl) (fun _ _ _ h => h) ⟨by rfl, ?y8_1⟩ (by assumption) ?r8_1
 case y8_1 => (intro w hSw; go_split_ands; go_simp; try with_reducible rfl)
 try simp only [Act.put, yA, yB, yC, yD, yE, yF]
 refine wpAnyE_one (i := 9) rfl (by kernel_rfl) (fun K hK => ?_)
 go_simp
 refine (H_hrd.out _ _ (H_hs1.out.fresh ?c1)).mono ?_; (case c1 => exact (Keep.refl _ _).drew); rintro r y_1 ⟨xw, rfl, hx, r⟩; have y := r.of_drew; have m_2 := cell_fresh k2 y; have m_3 := cell_fresh k3 y; have m_4 := cell_fresh k4 y; have m_5 := cell_fresh k5 y; have m_6 := cell_fresh k6 y; have m_7 := cell_fresh k7 y; have m_8 := cell_fresh k8 y; have H_y1 := hid y; have H_x1 := hid hx; clear y r hx
 go_wp2_with (fail)
 have hHeld1 : ((fun (w' : World) => w'.cell? ⟨h7, 0, none⟩ = some (.string yr) ∧ w'.cell? ⟨h7, 1, none⟩ = some (.int .i64 er) ∧ w'.cell? ⟨h8, 0, none⟩ = some (.string ys) ∧ w'.cell? ⟨h8, 1, none⟩ = some (.int .i64 es) ∧ w'.cell? ⟨h, 0, none⟩ = some (.bool na) ∧ w'.cell? ⟨h, 1, none⟩ = some (.slice aa ln1 ca) ∧ w'.cell? ⟨h, 2, none⟩ = some (.slice ac ln3 cc))) _ := ⟨m_2, m_3, m_4, m_5, m_6, m_7, m_8⟩
 refine hK.out _ _ (fun _ => hHeld1) ?_
 clear hK K
 try simp only [Act.put, yA, yB, yC, yD, yE, yF]
 refine wpAnyE_one (i := 10) rfl (by kernel_rfl) (fun K hK => ?_)
 go_simp
 refine (H_hfc.out _ _ H_x1.out).mono ?_; rintro r y_2 ⟨xw2, rfl, hx, y⟩; have n_2 := cell_fresh m_2 y; have n_3 := cell_fresh m_3 y; have n_4 := cell_fresh m_4 y; have n_5 := cell_fresh m_5 y; have n_6 := cell_fresh m_6 y; have n_7 := cell_fresh m_7 y; have n_8 := cell_fresh m_8 y; have H_y2 := hid (fresh_trans H_y1.out y); have H_x2 := hid hx; clear y hx
 go_wp2_with (fail)
 have hHeld2 : ((fun (w' : World) => w'.cell? ⟨h7, 0, none⟩ = some (.string yr) ∧ w'.cell? ⟨h7, 1, none⟩ = some (.int .i64 er) ∧ w'.cell? ⟨h8, 0, none⟩ = some (.string ys) ∧ w'.cell? ⟨h8, 1, none⟩ = some (.int .i64 es) ∧ w'.cell? ⟨h, 0, none⟩ = some (.bool na) ∧ w'.cell? ⟨h, 1, none⟩ = some (.slice aa ln1 ca) ∧ w'.cell? ⟨h, 2, none⟩ = some (.slice ac ln3 cc))) _ := ⟨n_2, n_3, n_4, n_5, n_6, n_7, n_8⟩
 refine hK.out _ _ (fun _ => hHeld2) ?_
 clear hK K
 try simp only [Act.put, yA, yB, yC, yD, yE, yF]
 refine wpAnyE_one (i := 11) rfl (by kernel_rfl) (fun K hK => ?_)
 go_simp
 refine (H_hsy.out _ _ H_x2.out).mono ?_; rintro r y_3 ⟨rfl, y⟩; have p_2 := cell_fresh n_2 y; have p_3 := cell_fresh n_3 y; have p_4 := cell_fresh n_4 y; have p_5 := cell_fresh n_5 y; have p_6 := cell_fresh n_6 y; have p_7 := cell_fresh n_7 y; have p_8 := cell_fresh n_8 y; have H_y3 := hid (fresh_trans H_y2.out y); clear y
 go_wp2_with (fail)
 have hHeld3 : ((fun (w' : World) => w'.cell? ⟨h7, 0, none⟩ = some (.string yr) ∧ w'.cell? ⟨h7, 1, none⟩ = some (.int .i64 er) ∧ w'.cell? ⟨h8, 0, none⟩ = some (.string ys) ∧ w'.cell? ⟨h8, 1, none⟩ = some (.int .i64 es) ∧ w'.cell? ⟨h, 0, none⟩ = some (.bool na) ∧ w'.cell? ⟨h, 1, none⟩ = some (.slice aa ln1 ca) ∧ w'.cell? ⟨h, 2, none⟩ = some (.slice ac ln3 cc))) _ := ⟨p_2, p_3, p_4, p_5, p_6, p_7, p_8⟩
 refine hK.out _ _ (fun _ => hHeld3) ?_
 clear hK K
 try simp only [Act.put, yA, yB, yC, yD, yE, yF]
 refine wpAnyE_takeP (i := 12) (v := .bool true) rfl (by kernel_rfl) (fun _ _ _ h => h) ⟨by rfl, ?y12_1⟩ (by assumption) ?r12_1
 case y12_1 => (intro w; go_simp)
 try simp only [Act.put, yA, yB, yC, yD, yE, yF]
 refine wpAnyE_takeP (i := 13) (v := .bool true) rfl (by kernel_rfl) (fun _ _ _ h => h) ⟨by rfl, ?y13_1⟩ (by assumption) ?r13_1
 case y13_1 => (intro w; go_simp)
 try simp only [Act.put, yA, yB, yC, yD, yE, yF]
 refine wpAnyE_takeL (i := 14) (c := 18) (v := ?v14_1) rfl (by kernel_rfl) (fun _ _ _ h => h) ⟨by rfl, ?y14_1⟩ (by assumption) ?r14_1
 case y14_1 => (intro w hSw; go_split_ands; go_simp; try with_reducible rfl)
 try simp only [Act.put, yA, yB, yC, yD, yE, yF]
 refine wpAnyE_takeL (i := 15) (c := 16) (v := ?v15_1) rfl (by kernel_rfl) (fun _ _ _ h => h) ⟨by rfl, ?y15_1⟩ (by assumption) ?r15_1
 case y15_1 => (intro w hSw; go_split_ands; go_simp; try with_reducible rfl)
 try simp only [Act.put, yA, yB, yC, yD, yE, yF]
 refine wpAnyE_one (i := 16) rfl (by kernel_rfl) (fun K hK => ?_)
 go_simp
 refine (H_hrd2.out _ _ (H_hs1.out.fresh H_y3.out)).mono ?_; rintro r y_4 ⟨xw, rfl, hx, r⟩; have y := r; have u_2 := cell_fresh p_2 y; have u_3 := cell_fresh p_3 y; have u_4 := cell_fresh p_4 y; have u_5 := cell_fresh p_5 y; have u_6 := cell_fresh p_6 y; have u_7 := cell_fresh p_7 y; have u_8 := cell_fresh p_8 y; have H_y4 := hid (fresh_trans H_y3.out y); have H_x4 := hid hx; clear y r hx
 go_wp2_with (fail)
 have hHeld4 : ((fun (w' : World) => w'.cell? ⟨h7, 0, none⟩ = some (.string yr) ∧ w'.cell? ⟨h7, 1, none⟩ = some (.int .i64 er) ∧ w'.cell? ⟨h8, 0, none⟩ = some (.string ys) ∧ w'.cell? ⟨h8, 1, none⟩ = some (.int .i64 es) ∧ w'.cell? ⟨h, 0, none⟩ = some (.bool na) ∧ w'.cell? ⟨h, 1, none⟩ = some (.slice aa ln1 ca) ∧ w'.cell? ⟨h, 2, none⟩ = some (.slice ac ln3 cc))) _ := ⟨u_2, u_3, u_4, u_5, u_6, u_7, u_8⟩
 refine hK.out _ _ (fun _ => hHeld4) ?_
 clear hK K
 try simp only [Act.put, yA, yB, yC, yD, yE, yF]
 refine wpAnyE_one (i := 17) rfl (by kernel_rfl) (fun K hK => ?_)
 go_simp
 refine (H_hfc2.out _ _ H_x4.out).mono ?_; rintro r y_5 ⟨xw2, rfl, hx, y⟩; have v_2 := cell_fresh u_2 y; have v_3 := cell_fresh u_3 y; have v_4 := cell_fresh u_4 y; have v_5 := cell_fresh u_5 y; have v_6 := cell_fresh u_6 y; have v_7 := cell_fresh u_7 y; have v_8 := cell_fresh u_8 y; have H_y5 := hid (fresh_trans H_y4.out y); have H_x5 := hid hx; clear y hx
 go_wp2_with (fail)
 have hHeld5 : ((fun (w' : World) => w'.cell? ⟨h7, 0, none⟩ = some (.string yr) ∧ w'.cell? ⟨h7, 1, none⟩ = some (.int .i64 er) ∧ w'.cell? ⟨h8, 0, none⟩ = some (.string ys) ∧ w'.cell? ⟨h8, 1, none⟩ = some (.int .i64 es) ∧ w'.cell? ⟨h, 0, none⟩ = some (.bool na) ∧ w'.cell? ⟨h, 1, none⟩ = some (.slice aa ln1 ca) ∧ w'.cell? ⟨h, 2, none⟩ = some (.slice ac ln3 cc))) _ := ⟨v_2, v_3, v_4, v_5, v_6, v_7, v_8⟩
 refine hK.out _ _ (fun _ => hHeld5) ?_
 clear hK K
 try simp only [Act.put, yA, yB, yC, yD, yE, yF]
 refine wpAnyE_one (i := 18) rfl (by kernel_rfl) (fun K hK => ?_)
 go_simp
 refine (H_hsy2.out _ _ H_x5.out).mono ?_; rintro r y_6 ⟨rfl, y⟩; have x_2 := cell_fresh v_2 y; have x_3 := cell_fresh v_3 y; have x_4 := cell_fresh v_4 y; have x_5 := cell_fresh v_5 y; have x_6 := cell_fresh v_6 y; have x_7 := cell_fresh v_7 y; have x_8 := cell_fresh v_8 y; have H_y6 := hid (fresh_trans H_y5.out y); clear y
 go_wp2_with (fail)
 have hHeld6 : ((fun (w' : World) => w'.cell? ⟨h7, 0, none⟩ = some (.string yr) ∧ w'.cell? ⟨h7, 1, none⟩ = some (.int .i64 er) ∧ w'.cell? ⟨h8, 0, none⟩ = some (.string ys) ∧ w'.cell? ⟨h8, 1, none⟩ = some (.int .i64 es) ∧ w'.cell? ⟨h, 0, none⟩ = some (.bool na) ∧ w'.cell? ⟨h, 1, none⟩ = some (.slice aa ln1 ca) ∧ w'.cell? ⟨h, 2, none⟩ = some (.slice ac ln3 cc))) _ := ⟨x_2, x_3, x_4, x_5, x_6, x_7, x_8⟩
 refine hK.out _ _ (fun _ => hHeld6) ?_
 clear hK K
 try simp only [Act.put, yA, yB, yC, yD, yE, yF]
 refine wpAnyE_takeP (i := 19) (v := .bool true) rfl (by kernel_rfl) (fun _ _ _ h => h) ⟨by rfl, ?y19_1⟩ (by assumption) ?r19_1
 case y19_1 => (intro w; go_simp)
 try simp only [Act.put, yA, yB, yC, yD, yE, yF]
 refine wpAnyE_one (i := 20) rfl (by kernel_rfl) (fun K hK => ?_)
 go_simp
 refine hK.out _ _ (fun h => Bool.noConfusion (show true = false from h)) ?_
 clear hK K
 try simp only [Act.put, yA, yB, yC, yD, yE, yF]
 refine wpAnyE_done (by kernel_rfl) ?_ _
 go_wp2_with (fail)
 go_ret
 exact ⟨rfl, fresh_trans H_fa.out H_y6.out⟩

theorem main_is : Tryz.pinned.checked.prog.mainIs = some (Rows.fnDecRescaleCard.stood.harness.fst, Rows.fnDecRescaleCard.stood.harness.snd.toList) := by kernel_rfl

theorem looks_no : false = Tryz.pinned.checked.prog.looks [] := by kernel_rfl

end Go.Proofs.YtllencgncinphaaGreatDoor
