/- The walk of FnDecRescale. Printed by gen_lw1.py FnDecRescale. -/
import Derived.Test.YtllencgncinphaaGreatDoorK13
import Derived.Test.YtllencgncinphaaGreatDoorK40
namespace Go.Proofs.YtllencgncinphaaGreatDoor
open Go.RowKit

set_option maxRecDepth 20000 in
set_option maxHeartbeats 2000000 in
theorem FnDecRescale_out (t1 : ByteArray) (x1 : Int) (n : Int) (w : World) (h1 : t1.size ≤ 9223372036854775807) (h : ¬ t1.size ≤ 2147483647) :
    Calls Tryz.prog 3 #[.agg #[.string t1, .int .i64 x1], .int .i64 n] w (VRet w (.bool true)) := by
  have hz1 : ∀ W, Calls Tryz.prog 12 #[.agg #[.string t1, .int .i64 x1]] W (fun r w' => r = .returned (.bool false) ∧ Fresh W w') := fun W => by
    have := zzFits1_any t1 x1 W h1
    rwa [decide_eq_false h] at this
  obtain ⟨g, hg⟩ : ∃ g, g = w.heap.size := ⟨_, rfl⟩
  clear h1 h
  have H_hz1 := Lib.hid hz1; clear hz1
  go_enter Tryz.func3, Tryz.ntmps3
  go_wp2_with (fail)
  generalize hw1 : w.alloc _ = w1
  have d1 : w1.heap[g]? = some (.cells #[.string t1, .int .i64 x1] 23 (0, 0)) := by rw [← hw1, hg]; exact heap_alloc_new w _
  have fa : Fresh w w1 := by rw [← hw1]; exact (Keep.refl _ _).alloc _
  rw [← hg]
  have k0 := row_cell d1 0
  have k1 := row_cell d1 1
  simp at k0 k1
  have H_fa := Lib.hid fa; clear fa
  have H_hw1 := Lib.hid hw1; clear hw1
  have H_d1 := Lib.hid d1; clear d1
  have H_hg := Lib.hid hg; clear hg
  go_wp2_with (fail)
  refine (H_hz1.out _).mono ?_
  rintro e w2 ⟨rfl, f2⟩
  have f2 := fresh_trans H_fa.out f2
  clear k0 k1
  have H_f2 := Lib.hid f2; clear f2
  go_wp2_with (fail)
  go_ret
  exact ⟨rfl, H_f2.out⟩

set_option maxRecDepth 20000 in
set_option maxHeartbeats 4000000 in
theorem FnDecRescale_main (S1 : List Nat) (x1 : Int) (n : Int) (w : World) (hG : Glob w) (hS1 : ∀ c ∈ S1, c < 256) (hl1 : S1.length ≤ 2147483647) (hx1 : -9223372036854775808 ≤ x1 ∧ x1 ≤ 9223372036854775807) (hn : -9223372036854775808 ≤ n ∧ n ≤ 9223372036854775807) :
    Calls Tryz.prog 3 #[.agg #[.string (bstr S1), .int .i64 x1], .int .i64 n] w (VRet w (.bool true)) := by
  have hz1 : ∀ W, Calls Tryz.prog 12 #[.agg #[.string (bstr S1), .int .i64 x1]] W (fun r w' => r = .returned (.bool true) ∧ Fresh W w') := fun W => by
    have := zzFits1_any (bstr S1) x1 W (by rw [bstr_size]; omega)
    rwa [show decide ((bstr S1).size ≤ 2147483647) = true by rw [bstr_size]; simpa using hl1] at this
  have har := fun W => arOne_any S1 x1 W hS1 hl1 hx1
  have hap := fun W => arPlaces_any n 100 W (by omega) hn
  generalize bstr S1 = t1 at *
  clear hS1 hl1 hx1 hn
  obtain ⟨g, hg⟩ : ∃ g, g = w.heap.size := ⟨_, rfl⟩
  have H_hz1 := Lib.hid hz1; clear hz1
  have H_har := Lib.hid har; clear har
  have H_hap := Lib.hid hap; clear hap
  have H_hG := Lib.hid hG; clear hG
  go_enter Tryz.func3, Tryz.ntmps3
  go_wp2_with (fail)
  generalize hw1 : w.alloc _ = w1
  have d1 : w1.heap[g]? = some (.cells #[.string t1, .int .i64 x1] 23 (0, 0)) := by rw [← hw1, hg]; exact heap_alloc_new w _
  have fa : Fresh w w1 := by rw [← hw1]; exact (Keep.refl _ _).alloc _
  rw [← hg]
  have k0 := row_cell d1 0
  have k1 := row_cell d1 1
  simp at k0 k1
  have H_fa := Lib.hid fa; clear fa
  have H_hw1 := Lib.hid hw1; clear hw1
  have H_d1 := Lib.hid d1; clear d1
  have H_hg := Lib.hid hg; clear hg
  go_wp2_with (fail)
  refine (H_hz1.out _).mono ?_
  rintro e w2 ⟨rfl, f2⟩
  have d1 := row_fresh H_d1.out f2
  have fa := fresh_trans H_fa.out f2
  clear H_d1 H_fa f2 k0 k1
  have k0 := row_cell d1 0
  have k1 := row_cell d1 1
  simp at k0 k1
  have H_d1 := Lib.hid d1; clear d1
  have H_fa := Lib.hid fa; clear fa
  go_wp2_with (fail)
  refine (H_har.out _).mono ?_
  rintro r w4 ⟨z, e, u1, rfl, q1, q2, s1, f4⟩
  clear k0 k1
  have d1 := row_fresh H_d1.out f4
  have fa := fresh_trans H_fa.out f4
  clear H_d1 H_fa f4
  have hs1 := s1
  obtain ⟨na, va, la, da, dla, rfl, xa1, xa2, xa3, xa4, xa5, xa6⟩ := s1
  obtain ⟨aa, ca, rfl⟩ := xa1.form
  obtain ⟨ac, cc, rfl⟩ := xa5.form
  clear xa1 xa2 xa3 xa4 xa5 xa6
  generalize la.length = ln1 at *
  generalize dla.length = ln3 at *
  clear la dla
  obtain ⟨h, hh⟩ : ∃ h, h = w4.heap.size := ⟨_, rfl⟩
  clear H_hz1 H_har
  obtain ⟨y1, hy1⟩ : ∃ y1, y1 = bstr (wdig z) := ⟨_, rfl⟩
  rw [← hy1]
  have H_d1 := Lib.hid d1; clear d1
  have H_fa := Lib.hid fa; clear fa
  have H_hh := Lib.hid hh; clear hh
  have H_hs1 := Lib.hid hs1; clear hs1
  have H_q1 := Lib.hid q1; clear q1
  have H_q2 := Lib.hid q2; clear q2
  have H_hy1 := Lib.hid hy1; clear hy1
  dsimp only
  refine (‹∀ (a : Act) (w_1 : World), wpList _ _ _ _ a w_1 → _›) _ _ ?_
  refine wl_value rfl (v := ?v1) (w' := w4) ?y1 ?r1
  case y1 => (go_simp; try with_reducible rfl)
  try simp only [Act.put, yD, yE, yF]
  refine wl_value rfl (v := ?v2) (w' := w4) ?y2 ?r2
  case y2 => (go_simp; try with_reducible rfl)
  try simp only [Act.put, yD, yE, yF]
  refine wl_value rfl (v := ?v3) (w' := w4) ?y3 ?r3
  case y3 => (go_simp; try with_reducible rfl)
  try simp only [Act.put, yD, yE, yF]
  refine wl_value rfl (v := .pointer (some ⟨h, 0, none⟩)) (w' := w4.alloc (.cells #[.bool false, .slice none 0 0, .slice none 0 0] 30 (0, 0))) ?y6 ?r6
  case y6 => (have hh := H_hh.out; go_simp)
  try simp only [Act.put, yD, yE, yF]
  generalize hw5 : w4.alloc _ = w5
  have r5 : w5.heap[h]? = some (.cells #[.bool false, .slice none 0 0, .slice none 0 0] 30 (0, 0)) := by rw [← hw5, H_hh.out]; exact heap_alloc_new w4 _
  have f5 : Fresh w4 w5 := by rw [← hw5]; exact (Keep.refl _ _).alloc _
  have hlt1 := lt_of_row H_d1.out
  rw [← H_hh.out] at hlt1
  have d1 := row_fresh H_d1.out f5
  have fa := fresh_trans H_fa.out f5
  have hs1 := H_hs1.out.fresh f5
  clear H_d1 H_fa H_hs1
  have H_d1 := Lib.hid d1; clear d1
  have H_r5 := Lib.hid r5; clear r5
  have H_fa := Lib.hid fa; clear fa
  have H_hw5 := Lib.hid hw5; clear hw5
  have H_f5 := Lib.hid f5; clear f5
  have H_hlt1 := Lib.hid hlt1; clear hlt1
  have H_hs1 := Lib.hid hs1; clear hs1
  obtain ⟨W8_, hW8⟩ : ∃ W, W = ((w5.setCell ⟨g, 0, none⟩ (.string y1)).setCell ⟨g, 1, none⟩ (.int .i64 e)) := ⟨_, rfl⟩
  refine wl_skip rfl (w' := W8_) ?y8 ?r8
  case y8 => (rw [hW8]; have p0 := row_cell H_d1.out 0; have p1 := row_cell H_d1.out 1; simp at p0 p1; have q0 : w5.frozen? ⟨g, 0, none⟩ = false := frozen_of_row _ _ _ _ _ H_d1.out; have q1 : w5.frozen? ⟨g, 1, none⟩ = false := frozen_of_row _ _ _ _ _ H_d1.out; go_simp; try with_reducible rfl)
  try simp only [Act.put]
  have r8 : W8_.heap[h]? = some (.cells #[.bool false, .slice none 0 0, .slice none 0 0] 30 (0, 0)) := by rw [hW8]; exact row_set_ne (by have := H_hlt1.out; omega) (row_set_ne (by have := H_hlt1.out; omega) H_r5.out)
  have H_r8 := Lib.hid r8; clear r8
  have H_hW8 := Lib.hid hW8; clear hW8
  obtain ⟨W9_, hW9⟩ : ∃ W, W = (((W8_.setCell ⟨h, 0, none⟩ (.bool na)).setCell ⟨h, 1, none⟩ (.slice aa ln1 ca)).setCell ⟨h, 2, none⟩ (.slice ac ln3 cc)) := ⟨_, rfl⟩
  refine wl_skip rfl (w' := W9_) ?y9 ?r9
  case y9 => (rw [hW9]; have p0 := row_cell H_r8.out 0; have p1 := row_cell H_r8.out 1; have p2 := row_cell H_r8.out 2; simp at p0 p1 p2; have q0 : W8_.frozen? ⟨h, 0, none⟩ = false := frozen_of_row _ _ _ _ _ H_r8.out; have q1 : W8_.frozen? ⟨h, 1, none⟩ = false := frozen_of_row _ _ _ _ _ H_r8.out; have q2 : W8_.frozen? ⟨h, 2, none⟩ = false := frozen_of_row _ _ _ _ _ H_r8.out; go_simp; try with_reducible rfl)
  try simp only [Act.put]
  obtain ⟨d1, r5, hsf, hff⟩ := two_rows (by have := H_hlt1.out; omega) H_d1.out H_r5.out _ _ _ _ _ (by intro n; simp [wd]) (by intro n; simp [wd]) W9_ (by rw [hW9, H_hW8.out])
  have hs1 := hsf _ _ _ H_hs1.out
  have hgw := H_hg.out
  have hgh := H_hlt1.out
  have fa := hff w (by omega) (by omega) H_fa.out
  clear H_d1 H_r5 H_fa H_hs1 H_r8 H_hW8 hW9 hsf hff H_hw5 H_f5 hgw hgh
  have k0 := row_cell d1 0
  have k1 := row_cell d1 1
  simp at k0 k1
  have H_d1 := Lib.hid d1; clear d1
  have H_r5 := Lib.hid r5; clear r5
  have H_hs1 := Lib.hid hs1; clear hs1
  have H_fa := Lib.hid fa; clear fa
  go_wp2_with (fail)
  refine (H_hap.out _).mono ?_
  rintro r w6 ⟨p, rfl, hp, hw6⟩
  obtain rfl : W9_ = w6 := hw6.symm
  obtain ⟨zr, q, hop, hrd, hfc, hsy⟩ := FnDecRescale_facts z e p H_q1.out H_q2.out hp
  rw [← H_hy1.out] at hop
  obtain ⟨N1, hN1⟩ : ∃ N1, dnum z e = N1 := ⟨_, rfl⟩
  obtain ⟨D1, hD1⟩ : ∃ D1, dden e = D1 := ⟨_, rfl⟩
  have hs1 := H_hs1.out
  rw [hN1, hD1] at hs1
  rw [hN1, hD1] at hrd
  clear H_hs1 H_hy1 H_q1 H_q2 hN1 hD1 H_hap
  generalize bstr (wdig zr) = yr at *
  have tn : wrap64 (-p) = -p := by unfold wrap64; omega
  have tn2 : IntKind.i64.wrap (-p) = -p := by rw [IntKind.wrap_i64]; omega
  have H_hop := Lib.hid hop; clear hop
  have H_hrd := Lib.hid hrd; clear hrd
  have H_hfc := Lib.hid hfc; clear hfc
  have H_hsy := Lib.hid hsy; clear hsy
  have H_hs1 := Lib.hid hs1; clear hs1
  have H_hp := Lib.hid hp; clear hp
  go_wp2_with (fail)
  refine (H_hop.out _ (H_hG.out.fresh H_fa.out)).mono ?_
  rintro r w12 ⟨rfl, f12⟩
  clear k0 k1
  obtain ⟨h7, hhh7⟩ : ∃ k, k = w12.heap.size := ⟨_, rfl⟩
  have d1 := row_fresh H_d1.out f12
  have fa := fresh_trans H_fa.out f12
  have r5 := row_fresh H_r5.out f12
  have hs1 := H_hs1.out.fresh f12
  clear H_d1 H_fa H_r5 H_hs1 f12
  have H_hhh7 := Lib.hid hhh7; clear hhh7
  have H_d1 := Lib.hid d1; clear d1
  have H_fa := Lib.hid fa; clear fa
  have H_r5 := Lib.hid r5; clear r5
  have H_hs1 := Lib.hid hs1; clear hs1
  go_wp2_with (fail)
  generalize hw13 : w12.alloc _ = w13
  have f13 : Fresh w12 w13 := by rw [← hw13]; exact (Keep.refl _ _).alloc _
  have r7 : w13.heap[h7]? = some (.cells #[.string yr, .int .i64 p] 23 (0, 0)) := by rw [← hw13, H_hhh7.out]; exact heap_alloc_new w12 _
  rw [← H_hhh7.out]
  have d1 := row_fresh H_d1.out f13
  have fa := fresh_trans H_fa.out f13
  have r5 := row_fresh H_r5.out f13
  have hs1 := H_hs1.out.fresh f13
  clear H_d1 H_fa H_r5 H_hs1 f13
  have k2 := row_cell r7 0
  have k3 := row_cell r7 1
  have k6 := row_cell r5 0
  have k7 := row_cell r5 1
  have k8 := row_cell r5 2
  simp at k2 k3 k6 k7 k8
  have H_d1 := Lib.hid d1; clear d1
  have H_fa := Lib.hid fa; clear fa
  have H_r5 := Lib.hid r5; clear r5
  have H_hs1 := Lib.hid hs1; clear hs1
  have H_r7 := Lib.hid r7; clear r7
  have H_hw13 := Lib.hid hw13; clear hw13
  refine wp_region_E (S := (fun (w' : World) => w'.cell? ⟨h7, 0, none⟩ = some (.string yr) ∧ w'.cell? ⟨h7, 1, none⟩ = some (.int .i64 p) ∧ w'.cell? ⟨h, 0, none⟩ = some (.bool na) ∧ w'.cell? ⟨h, 1, none⟩ = some (.slice aa ln1 ca) ∧ w'.cell? ⟨h, 2, none⟩ = some (.slice ac ln3 cc))) 17 (by kernel_rfl) (by exact ⟨k2, k3, k6, k7, k8⟩) (fun hHeld => ?_)
  refine wpAnyE_takeP (i := 0) (v := ?v0_1) rfl (by kernel_rfl) (fun _ _ _ h => h) ⟨by rfl, ?y0_1⟩ (by assumption) ?r0_1
  case y0_1 => (intro w; go_simp; try with_reducible rfl)
  try simp only [Act.put, yA, yB, yD, yE, yF]
  refine wpAnyE_takeP (i := 1) (v := .bool true) rfl (by kernel_rfl) (fun _ _ _ h => h) ⟨by rfl, ?y1_1⟩ (by assumption) ?r1_1
  case y1_1 => (intro w; go_simp)
  try simp only [Act.put, yA, yB, yC, yD, yE, yF]
  refine wpAnyE_takeP (i := 2) (v := .bool true) rfl (by kernel_rfl) (fun _ _ _ h => h) ⟨by rfl, ?y2_1⟩ (by assumption) ?r2_1
  case y2_1 => (intro w; go_simp)
  try simp only [Act.put, yA, yB, yC, yD, yE, yF]
  refine wpAnyE_takeL (i := 3) (c := 9) (v := ?v3_1) rfl (by kernel_rfl) (fun _ _ _ h => h) ⟨by rfl, ?y3_1⟩ (by assumption) ?r3_1
  case y3_1 => (intro w hSw; go_split_ands; go_simp; try with_reducible rfl)
  try simp only [Act.put, yA, yB, yC, yD, yE, yF]
  refine wpAnyE_takeL (i := 4) (c := 7) (v := ?v4_1) rfl (by kernel_rfl) (fun _ _ _ h => h) ⟨by rfl, ?y4_1⟩ (by assumption) ?r4_1
  case y4_1 => (intro w hSw; go_split_ands; go_simp; try with_reducible rfl)
  try simp only [Act.put, yA, yB, yC, yD, yE, yF]
  refine wpAnyE_takeP (i := 5) (v := ?v5_1) rfl (by kernel_rfl) (fun _ _ _ h => h) ⟨by rfl, ?y5_1⟩ (by assumption) ?r5_1
  case y5_1 => (intro w; go_simp; try with_reducible rfl)
  try simp only [Act.put, yA, yB, yC, yD, yE, yF]
  refine wpAnyE_takeP (i := 6) (v := ?v6_1) rfl (by kernel_rfl) (fun _ _ _ h => h) ⟨by rfl, ?y6_1⟩ (by assumption) ?r6_1
  case y6_1 => (intro w; go_simp; try with_reducible rfl)
  try simp only [Act.put, yA, yB, yC, yD, yE, yF]
  refine wpAnyE_one (i := 7) rfl (by kernel_rfl) (fun K hK => ?_)
  go_simp
  refine (H_hrd.out _ _ (H_hs1.out.fresh ?c1)).mono ?_; (case c1 => exact (Keep.refl _ _).drew); rintro r y_1 ⟨xw, rfl, hx, r⟩; have y := r.of_drew; have m_2 := cell_fresh k2 y; have m_3 := cell_fresh k3 y; have m_6 := cell_fresh k6 y; have m_7 := cell_fresh k7 y; have m_8 := cell_fresh k8 y; have H_y1 := Lib.hid y; have H_x1 := Lib.hid hx; clear y r hx
  go_wp2_with (fail)
  have hHeld1 : ((fun (w' : World) => w'.cell? ⟨h7, 0, none⟩ = some (.string yr) ∧ w'.cell? ⟨h7, 1, none⟩ = some (.int .i64 p) ∧ w'.cell? ⟨h, 0, none⟩ = some (.bool na) ∧ w'.cell? ⟨h, 1, none⟩ = some (.slice aa ln1 ca) ∧ w'.cell? ⟨h, 2, none⟩ = some (.slice ac ln3 cc))) _ := ⟨m_2, m_3, m_6, m_7, m_8⟩
  refine hK.out _ _ (fun _ => hHeld1) ?_
  clear hK K
  try simp only [Act.put, yA, yB, yC, yD, yE, yF]
  refine wpAnyE_one (i := 8) rfl (by kernel_rfl) (fun K hK => ?_)
  go_simp
  refine (H_hfc.out _ _ H_x1.out).mono ?_; rintro r y_2 ⟨xw2, rfl, hx, y⟩; have n_2 := cell_fresh m_2 y; have n_3 := cell_fresh m_3 y; have n_6 := cell_fresh m_6 y; have n_7 := cell_fresh m_7 y; have n_8 := cell_fresh m_8 y; have H_y2 := Lib.hid (fresh_trans H_y1.out y); have H_x2 := Lib.hid hx; clear y hx
  go_wp2_with (fail)
  have hHeld2 : ((fun (w' : World) => w'.cell? ⟨h7, 0, none⟩ = some (.string yr) ∧ w'.cell? ⟨h7, 1, none⟩ = some (.int .i64 p) ∧ w'.cell? ⟨h, 0, none⟩ = some (.bool na) ∧ w'.cell? ⟨h, 1, none⟩ = some (.slice aa ln1 ca) ∧ w'.cell? ⟨h, 2, none⟩ = some (.slice ac ln3 cc))) _ := ⟨n_2, n_3, n_6, n_7, n_8⟩
  refine hK.out _ _ (fun _ => hHeld2) ?_
  clear hK K
  try simp only [Act.put, yA, yB, yC, yD, yE, yF]
  refine wpAnyE_one (i := 9) rfl (by kernel_rfl) (fun K hK => ?_)
  go_simp
  refine (H_hsy.out _ _ H_x2.out).mono ?_; rintro r y_3 ⟨rfl, y⟩; have p_2 := cell_fresh n_2 y; have p_3 := cell_fresh n_3 y; have p_6 := cell_fresh n_6 y; have p_7 := cell_fresh n_7 y; have p_8 := cell_fresh n_8 y; have H_y3 := Lib.hid (fresh_trans H_y2.out y); clear y
  go_wp2_with (fail)
  have hHeld3 : ((fun (w' : World) => w'.cell? ⟨h7, 0, none⟩ = some (.string yr) ∧ w'.cell? ⟨h7, 1, none⟩ = some (.int .i64 p) ∧ w'.cell? ⟨h, 0, none⟩ = some (.bool na) ∧ w'.cell? ⟨h, 1, none⟩ = some (.slice aa ln1 ca) ∧ w'.cell? ⟨h, 2, none⟩ = some (.slice ac ln3 cc))) _ := ⟨p_2, p_3, p_6, p_7, p_8⟩
  refine hK.out _ _ (fun _ => hHeld3) ?_
  clear hK K
  try simp only [Act.put, yA, yB, yC, yD, yE, yF]
  refine wpAnyE_takeP (i := 10) (v := .bool true) rfl (by kernel_rfl) (fun _ _ _ h => h) ⟨by rfl, ?y10_1⟩ (by assumption) ?r10_1
  case y10_1 => (intro w; go_simp)
  try simp only [Act.put, yA, yB, yC, yD, yE, yF]
  refine wpAnyE_takeP (i := 11) (v := .bool true) rfl (by kernel_rfl) (fun _ _ _ h => h) ⟨by rfl, ?y11_1⟩ (by assumption) ?r11_1
  case y11_1 => (intro w; go_simp)
  try simp only [Act.put, yA, yB, yC, yD, yE, yF]
  refine wpAnyE_takeP (i := 12) (v := ?v12_1) rfl (by kernel_rfl) (fun _ _ _ h => h) ⟨by rfl, ?y12_1⟩ (by assumption) ?r12_1
  case y12_1 => (intro w; go_simp; try with_reducible rfl)
  try simp only [Act.put, yA, yB, yC, yD, yE, yF]
  refine wpAnyE_takeL (i := 13) (c := 15) (v := ?v13_1) rfl (by kernel_rfl) (fun _ _ _ h => h) ⟨by rfl, ?y13_1⟩ (by assumption) ?r13_1
  case y13_1 => (intro w hSw; go_split_ands; go_simp; try with_reducible rfl)
  try simp only [Act.put, yA, yB, yC, yD, yE, yF]
  refine wpAnyE_takeP (i := 14) (v := ?v14_1) rfl (by kernel_rfl) (fun _ _ _ h => h) ⟨by rfl, ?y14_1⟩ (by assumption) ?r14_1
  case y14_1 => (intro w; go_simp; try with_reducible rfl)
  try simp only [Act.put, yA, yB, yC, yD, yE, yF]
  refine wpAnyE_takeP (i := 15) (v := .bool true) rfl (by kernel_rfl) (fun _ _ _ h => h) ⟨by rfl, ?y15_1⟩ (by assumption) ?r15_1
  case y15_1 => (intro w; go_simp)
  try simp only [Act.put, yA, yB, yC, yD, yE, yF]
  refine wpAnyE_takeP (i := 16) (v := .bool true) rfl (by kernel_rfl) (fun _ _ _ h => h) ⟨by rfl, ?y16_1⟩ (by assumption) ?r16_1
  case y16_1 => (intro w; go_simp)
  try simp only [Act.put, yA, yB, yC, yD, yE, yF]
  refine wpAnyE_one (i := 17) rfl (by kernel_rfl) (fun K hK => ?_)
  go_simp
  refine hK.out _ _ (fun h => Bool.noConfusion (show true = false from h)) ?_
  clear hK K
  try simp only [Act.put, yA, yB, yC, yD, yE, yF]
  refine wpAnyE_done (by kernel_rfl) ?_ _
  go_wp2_with (fail)
  go_ret
  exact ⟨rfl, fresh_trans H_fa.out H_y3.out⟩

end Go.Proofs.YtllencgncinphaaGreatDoor
