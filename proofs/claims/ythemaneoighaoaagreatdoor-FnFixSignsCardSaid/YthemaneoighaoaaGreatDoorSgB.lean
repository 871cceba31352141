/- The main way of FnFixSigns. -/
import Derived.Test.YthemaneoighaoaaGreatDoorSg
namespace Go.Proofs.YthemaneoighaoaaGreatDoor
open Go.RowKit

theorem sg_neg {n1 : Bool} {l : List Nat} {c : Nat} (hn : Norm l) (h : sval l = c) : sint (!(n1 && decide (0 < l.length)) && decide (0 < l.length)) l = zfix (!(n1 && decide (0 < c)) && decide (0 < c)) c := by
  have e := sval_pos_iff hn
  rw [h] at e
  have e2 : decide (0 < l.length) = decide (0 < c) := by simp only [decide_eq_decide]; exact e
  rw [e2]
  unfold sint zfix; rw [h]

theorem sg_abs {l : List Nat} {c : Nat} (h : sval l = c) : sint false l = zfix (false && decide (0 < c)) c := by
  simp [sint, zfix, h]

theorem sg_abs' {l : List Nat} {c : Nat} {b : Bool} (hb : b = false) (h : sval l = c) : sint false l = zfix b c := by
  subst hb; simp [sint, zfix, h]

theorem sg_as1 {l : List Nat} {c : Nat} (hn : Norm l) (h : sval l = c) : sint (decide (0 < l.length)) l = zfix ((true && true) && decide (0 < c)) c := by
  have e := sval_pos_iff hn
  rw [h] at e
  have e2 : decide (0 < l.length) = decide (0 < c) := by simp only [decide_eq_decide]; exact e
  rw [e2]
  unfold sint zfix; rw [h]; simp

theorem lt_of_row {w : World} {g : Nat} {o : Obj} (h : w.heap[g]? = some o) : g < w.heap.size := by
  rcases Nat.lt_or_ge g w.heap.size with hlt | hge
  · exact hlt
  · rw [Array.getElem?_eq_none hge] at h; cases h

set_option maxRecDepth 20000 in
set_option maxHeartbeats 4000000 in
theorem FnFixSigns_A (n1 : Bool) (c1 c2 s1 s2 : Nat) (w : World) (hs1 : s1 ≤ 19) (hs2 : s2 ≤ 19) (hc1 : c1 ≤ 9999999999999999999) (hc2 : c2 ≤ 9999999999999999999)  :
    Calls Tryz.prog 3 #[fx n1 c1 s1, fx false c2 s2] w (VRet w (.bool true)) := by
  have h : (fixIs c1 s1 && fixIs c2 s2) = true := by unfold fixIs; simp; omega
  obtain ⟨g, hg⟩ : ∃ g, g = w.heap.size := ⟨_, rfl⟩
  have bx := boxes3 w #[.bool n1, .int .u64 c1, .int .i64 s1] #[.bool false, .int .u64 c2, .int .i64 s2] #[.bool n1, .int .u64 c1, .int .i64 s1, .bool false, .int .u64 c2, .int .i64 s2] 24 24 24 g hg
  have H_bx := Lib.hid bx; clear bx
  have H_h := Lib.hid h; clear h
  go_enter Tryz.func3, Tryz.ntmps3
  go_wp2_with (fail)
  generalize hw1 : ((w.alloc _).alloc _).alloc _ = w1
  rw [← hg]
  obtain ⟨b1, b2, b3, hf, hgs⟩ := H_bx.out w1 hw1
  refine (FixAll_two n1 false c1 c2 s1 s2 _ _ b3).mono ?_
  rintro e w2 ⟨rfl, f2⟩
  rw [H_h.out]
  have d1 := row_fresh b1 f2
  have e1 := row_fresh b2 f2
  have hfa := fresh_trans hf f2
  have k0 := row_cell d1 0
  have k1 := row_cell d1 1
  have k2 := row_cell d1 2
  simp at k0 k1 k2
  clear b1 b2 b3 hf f2
  have H_d1 := Lib.hid d1; clear d1
  have H_e1 := Lib.hid e1; clear e1
  have H_hw1 := Lib.hid hw1; clear hw1
  have H_hg := Lib.hid hg; clear hg
  have H_hgs := Lib.hid hgs; clear hgs
  have H_hfa := Lib.hid hfa; clear hfa
  go_wp2_with (fail)
  refine (FixDec_any n1 c1 s1 _ hs1 hc1).mono ?_
  rintro e w3 ⟨v, l, rfl, r1, r2, r3, r4⟩
  obtain ⟨av, cv, rfl⟩ := r1.form
  have d2 := row_fresh H_d1.out r4
  have e2 := row_fresh H_e1.out r4
  clear k0 k1 k2
  have z0 := row_cell d2 0
  have z1 := row_cell d2 1
  have z2 := row_cell d2 2
  simp at z0 z1 z2
  have k0 := fun o1 o2 o3 => cell_fresh z0 ((((Keep.refl (fun _ => False) w3).alloc o1).alloc o2).alloc o3)
  have k1 := fun o1 o2 o3 => cell_fresh z1 ((((Keep.refl (fun _ => False) w3).alloc o1).alloc o2).alloc o3)
  have k2 := fun o1 o2 o3 => cell_fresh z2 ((((Keep.refl (fun _ => False) w3).alloc o1).alloc o2).alloc o3)
  clear z0 z1 z2
  have z0 := row_cell e2 0
  have z1 := row_cell e2 1
  have z2 := row_cell e2 2
  simp at z0 z1 z2
  have m0 := fun o1 o2 o3 => cell_fresh z0 ((((Keep.refl (fun _ => False) w3).alloc o1).alloc o2).alloc o3)
  have m1 := fun o1 o2 o3 => cell_fresh z1 ((((Keep.refl (fun _ => False) w3).alloc o1).alloc o2).alloc o3)
  have m2 := fun o1 o2 o3 => cell_fresh z2 ((((Keep.refl (fun _ => False) w3).alloc o1).alloc o2).alloc o3)
  clear z0 z1 z2
  obtain ⟨nx, hnx⟩ : ∃ n, n = (n1 && decide (0 < l.length)) := ⟨_, rfl⟩
  rw [← hnx]
  obtain ⟨X, hX⟩ : ∃ X, X = w3.heap.size := ⟨_, rfl⟩
  have by_ := boxes3 w3 #[.bool nx, .slice av l.length cv, .int .i64 (-(s1 : Int))] #[.bool false, .slice av l.length cv, .int .i64 (-(s1 : Int))] #[.bool false, .slice av l.length cv, .int .i64 (-(s1 : Int))] 31 31 31 X hX
  have gX : g + 1 < X := by rw [hX]; exact lt_of_row e2
  have hfb := fresh_trans H_hfa.out r4
  have H_d2 := Lib.hid d2; clear d2
  have H_e2 := Lib.hid e2; clear e2
  have H_r1 := Lib.hid r1; clear r1
  have H_r2 := Lib.hid r2; clear r2
  have H_r3 := Lib.hid r3; clear r3
  have H_r4 := Lib.hid r4; clear r4
  have H_hnx := Lib.hid hnx; clear hnx
  have H_by_ := Lib.hid by_; clear by_
  have H_hfb := Lib.hid hfb; clear hfb
  have H_hX := Lib.hid hX; clear hX
  have H_gX := Lib.hid gX; clear gX
  go_wp2_with (fail)
  generalize hw4 : ((w3.alloc _).alloc _).alloc _ = w4
  rw [← H_hX.out]
  obtain ⟨x1, u1, a1, f4, hXs⟩ := H_by_.out w4 hw4
  have d3 := row_fresh H_d2.out f4
  have e3 := row_fresh H_e2.out f4
  have hs4 := H_r1.out.fresh f4
  have hfc := fresh_trans H_hfb.out f4
  clear k0 k1 k2 m0 m1 m2
  have gX' := H_gX.out
  have H_x1 := Lib.hid x1; clear x1
  have H_u1 := Lib.hid u1; clear u1
  have H_a1 := Lib.hid a1; clear a1
  have H_d3 := Lib.hid d3; clear d3
  have H_e3 := Lib.hid e3; clear e3
  have H_hs4 := Lib.hid hs4; clear hs4
  have H_hfc := Lib.hid hfc; clear hfc
  have H_hw4 := Lib.hid hw4; clear hw4
  have H_f4 := Lib.hid f4; clear f4
  have H_hXs := Lib.hid hXs; clear hXs
  have H_gX' := Lib.hid gX'; clear gX'
  refine (FixNeg_any n1 s1 c1 _ hs1 hc1).mono ?_
  rintro e w7 ⟨rfl, f7⟩
  have dA := row_fresh H_d3.out f7
  have z0 := row_cell dA 0
  have z1 := row_cell dA 1
  have z2 := row_cell dA 2
  simp at z0 z1 z2
  have k0 := fun o1 => cell_fresh z0 ((Keep.refl (fun _ => False) w7).alloc o1)
  have k1 := fun o1 => cell_fresh z1 ((Keep.refl (fun _ => False) w7).alloc o1)
  have k2 := fun o1 => cell_fresh z2 ((Keep.refl (fun _ => False) w7).alloc o1)
  clear z0 z1 z2
  obtain ⟨nP, hnP⟩ : ∃ n, n = (!(n1 && decide (0 < c1)) && decide (0 < c1)) := ⟨_, rfl⟩
  rw [← hnP]
  obtain ⟨P, hP⟩ : ∃ P, P = w7.heap.size := ⟨_, rfl⟩
  have H_dA := Lib.hid dA; clear dA
  have H_f7 := Lib.hid f7; clear f7
  have H_hnP := Lib.hid hnP; clear hnP
  have H_hP := Lib.hid hP; clear hP
  go_wp2_with (fail)
  generalize hw8 : w7.alloc _ = w8
  rw [← H_hP.out]
  have P8 : w8.heap[P]? = some (.cells #[.bool nP, .int .u64 c1, .int .i64 s1] 24 (0, 0)) := by rw [← hw8, H_hP.out]; exact heap_alloc_new w7 _
  have f8 : Fresh w7 w8 := by rw [← hw8]; exact (Keep.refl _ _).alloc _
  have d8 := row_fresh H_dA.out f8
  clear k0 k1 k2
  have H_P8 := Lib.hid P8; clear P8
  have H_f8 := Lib.hid f8; clear f8
  have H_d8 := Lib.hid d8; clear d8
  have H_hw8 := Lib.hid hw8; clear hw8
  refine (FixAbs_any n1 s1 c1 _ hs1 hc1).mono ?_
  rintro e w9 ⟨rfl, f9⟩
  have d9 := row_fresh H_d8.out f9
  have e9 := row_fresh (row_fresh (row_fresh H_e3.out H_f7.out) H_f8.out) f9
  have z0 := row_cell d9 0
  have z1 := row_cell d9 1
  have z2 := row_cell d9 2
  simp at z0 z1 z2
  have k0 := fun o1 => cell_fresh z0 ((Keep.refl (fun _ => False) w9).alloc o1)
  have k1 := fun o1 => cell_fresh z1 ((Keep.refl (fun _ => False) w9).alloc o1)
  have k2 := fun o1 => cell_fresh z2 ((Keep.refl (fun _ => False) w9).alloc o1)
  clear z0 z1 z2
  have z0 := row_cell e9 0
  have z1 := row_cell e9 1
  have z2 := row_cell e9 2
  simp at z0 z1 z2
  have m0 := fun o1 => cell_fresh z0 ((Keep.refl (fun _ => False) w9).alloc o1)
  have m1 := fun o1 => cell_fresh z1 ((Keep.refl (fun _ => False) w9).alloc o1)
  have m2 := fun o1 => cell_fresh z2 ((Keep.refl (fun _ => False) w9).alloc o1)
  clear z0 z1 z2
  obtain ⟨nQ, hnQ⟩ : ∃ n, n = (false && decide (0 < c1)) := ⟨_, rfl⟩
  rw [← hnQ]
  obtain ⟨Q, hQ⟩ : ∃ Q, Q = w9.heap.size := ⟨_, rfl⟩
  have H_d9 := Lib.hid d9; clear d9
  have H_e9 := Lib.hid e9; clear e9
  have H_f9 := Lib.hid f9; clear f9
  have H_hnQ := Lib.hid hnQ; clear hnQ
  have H_hQ := Lib.hid hQ; clear hQ
  go_wp2_with (fail)
  generalize hw10 : w9.alloc _ = w10
  rw [← H_hQ.out]
  have Q10 : w10.heap[Q]? = some (.cells #[.bool nQ, .int .u64 c1, .int .i64 s1] 24 (0, 0)) := by rw [← hw10, H_hQ.out]; exact heap_alloc_new w9 _
  have f10 : Fresh w9 w10 := by rw [← hw10]; exact (Keep.refl _ _).alloc _
  clear k0 k1 k2 m0 m1 m2
  have H_Q10 := Lib.hid Q10; clear Q10
  have H_f10 := Lib.hid f10; clear f10
  have H_hw10 := Lib.hid hw10; clear hw10
  refine (FixCopySign_any n1 false s1 c1 s2 c2 _ hs1 hc1 hs2 hc2).mono ?_
  rintro e w11 ⟨rfl, f11⟩
  obtain ⟨nR, hnR⟩ : ∃ n, n = ((false && decide (0 < c2)) && decide (0 < c1)) := ⟨_, rfl⟩
  rw [← hnR]
  obtain ⟨R, hR⟩ : ∃ R, R = w11.heap.size := ⟨_, rfl⟩
  have H_f11 := Lib.hid f11; clear f11
  have H_hnR := Lib.hid hnR; clear hnR
  have H_hR := Lib.hid hR; clear hR
  go_wp2_with (fail)
  generalize hw12 : w11.alloc _ = w12
  rw [← H_hR.out]
  have R12 : w12.heap[R]? = some (.cells #[.bool nR, .int .u64 c1, .int .i64 s1] 24 (0, 0)) := by rw [← hw12, H_hR.out]; exact heap_alloc_new w11 _
  have f12 : Fresh w11 w12 := by rw [← hw12]; exact (Keep.refl _ _).alloc _
  have fQ : Fresh w10 w12 := fresh_trans H_f11.out f12
  have fP : Fresh w8 w12 := fresh_trans H_f9.out (fresh_trans H_f10.out fQ)
  have fW : Fresh w4 w12 := fresh_trans H_f7.out (fresh_trans H_f8.out fP)
  have P12 := row_fresh H_P8.out fP
  have Q12 := row_fresh H_Q10.out fQ
  have x12 := row_fresh H_x1.out fW
  have u12 := row_fresh H_u1.out fW
  have a12 := row_fresh H_a1.out fW
  have s12 := H_hs4.out.fresh fW
  have fa12 := fresh_trans H_hfc.out fW
  have k0 := row_cell P12 0
  have k1 := row_cell P12 1
  have k2 := row_cell P12 2
  have k3 := row_cell Q12 0
  have k4 := row_cell Q12 1
  have k5 := row_cell Q12 2
  have k6 := row_cell R12 0
  have k7 := row_cell R12 1
  have k8 := row_cell R12 2
  have k9 := row_cell x12 0
  have k10 := row_cell x12 1
  have k11 := row_cell x12 2
  have k12 := row_cell u12 0
  have k13 := row_cell u12 1
  have k14 := row_cell u12 2
  have k15 := row_cell a12 0
  have k16 := row_cell a12 1
  have k17 := row_cell a12 2
  simp at k0 k1 k2 k3 k4 k5 k6 k7 k8 k9 k10 k11 k12 k13 k14 k15 k16 k17
  have H_R12 := Lib.hid R12; clear R12
  have H_f12 := Lib.hid f12; clear f12
  have H_fQ := Lib.hid fQ; clear fQ
  have H_fP := Lib.hid fP; clear fP
  have H_fW := Lib.hid fW; clear fW
  have H_P12 := Lib.hid P12; clear P12
  have H_Q12 := Lib.hid Q12; clear Q12
  have H_x12 := Lib.hid x12; clear x12
  have H_u12 := Lib.hid u12; clear u12
  have H_a12 := Lib.hid a12; clear a12
  have H_s12 := Lib.hid s12; clear s12
  have H_fa12 := Lib.hid fa12; clear fa12
  have H_hw12 := Lib.hid hw12; clear hw12
  have cM : ∀ W, Fresh w12 W → Calls Tryz.prog 8 #[swh nx (.slice av l.length cv)] W (fun e w' => e = .returned (swh (!nx && decide (0 < l.length)) (.slice av l.length cv)) ∧ Fresh W w') := fun W hW => Minus_any nx _ l W (H_s12.out.fresh hW)
  have c1_ : ∀ W, Fresh w12 W → Calls Tryz.prog 12 #[fx nP c1 s1, .agg #[.bool (!nx && decide (0 < l.length)), .slice av l.length cv, .int .i64 (-(s1 : Int))]] W (VRet W (.bool true)) := fun W hW => FixSame_any nP c1 s1 _ _ l W hs1 hc1 (by rw [H_hnP.out]; simp) (H_s12.out.fresh hW) H_r2.out (by rintro rfl; simp) (by rw [H_hnP.out, H_hnx.out]; exact sg_neg H_r2.out H_r3.out) (by have := len_of H_r2.out H_r3.out hc1; omega)
  have c2_ : ∀ W, Fresh w12 W → Calls Tryz.prog 12 #[fx nQ c1 s1, .agg #[.bool false, .slice av l.length cv, .int .i64 (-(s1 : Int))]] W (VRet W (.bool true)) := fun W hW => FixSame_any nQ c1 s1 _ _ l W hs1 hc1 (by rw [H_hnQ.out]; simp) (H_s12.out.fresh hW) H_r2.out (by rintro rfl; rfl) (by rw [H_hnQ.out]; exact sg_abs H_r3.out) (by have := len_of H_r2.out H_r3.out hc1; omega)
  have c3_ : ∀ W, Fresh w12 W → Calls Tryz.prog 12 #[fx nR c1 s1, .agg #[.bool false, .slice av l.length cv, .int .i64 (-(s1 : Int))]] W (VRet W (.bool true)) := fun W hW => FixSame_any nR c1 s1 _ _ l W hs1 hc1 (by rw [H_hnR.out]; simp) (H_s12.out.fresh hW) H_r2.out (by rintro rfl; rfl) (by rw [H_hnR.out]; exact sg_abs' (by simp) H_r3.out) (by have := len_of H_r2.out H_r3.out hc1; omega)
  have H_cM := Lib.hid cM
  have H_c1 := Lib.hid c1_
  have H_c2 := Lib.hid c2_
  have H_c3 := Lib.hid c3_
  clear cM c1_ c2_ c3_
  go_region_held3 (fun (w' : World) => w'.cell? ⟨P, 0, none⟩ = some (.bool nP) ∧ w'.cell? ⟨P, 1, none⟩ = some (.int .u64 c1) ∧ w'.cell? ⟨P, 2, none⟩ = some (.int .i64 s1) ∧ w'.cell? ⟨Q, 0, none⟩ = some (.bool nQ) ∧ w'.cell? ⟨Q, 1, none⟩ = some (.int .u64 c1) ∧ w'.cell? ⟨Q, 2, none⟩ = some (.int .i64 s1) ∧ w'.cell? ⟨R, 0, none⟩ = some (.bool nR) ∧ w'.cell? ⟨R, 1, none⟩ = some (.int .u64 c1) ∧ w'.cell? ⟨R, 2, none⟩ = some (.int .i64 s1) ∧ w'.cell? ⟨X, 0, none⟩ = some (.bool nx) ∧ w'.cell? ⟨X, 1, none⟩ = some (.slice av l.length cv) ∧ w'.cell? ⟨X, 2, none⟩ = some (.int .i64 (-(s1 : Int))) ∧ w'.cell? ⟨X + 1, 0, none⟩ = some (.bool false) ∧ w'.cell? ⟨X + 1, 1, none⟩ = some (.slice av l.length cv) ∧ w'.cell? ⟨X + 1, 2, none⟩ = some (.int .i64 (-(s1 : Int))) ∧ w'.cell? ⟨X + 1 + 1, 0, none⟩ = some (.bool false) ∧ w'.cell? ⟨X + 1 + 1, 1, none⟩ = some (.slice av l.length cv) ∧ w'.cell? ⟨X + 1 + 1, 2, none⟩ = some (.int .i64 (-(s1 : Int)))) (first | exact ⟨k0, k1, k2, k3, k4, k5, k6, k7, k8, k9, k10, k11, k12, k13, k14, k15, k16, k17⟩ | exact ⟨m0, m1, m2, m3, m4, m5, m6, m7, m8, m9, m10, m11, m12, m13, m14, m15, m16, m17⟩ | exact ⟨n0, n1, n2, n3, n4, n5, n6, n7, n8, n9, n10, n11, n12, n13, n14, n15, n16, n17⟩ | exact ⟨o0, o1, o2, o3, o4, o5, o6, o7, o8, o9, o10, o11, o12, o13, o14, o15, o16, o17⟩ | exact ⟨u0, u1, u2, u3, u4, u5, u6, u7, u8, u9, u10, u11, u12, u13, u14, u15, u16, u17⟩ | exact ⟨v0, v1, v2, v3, v4, v5, v6, v7, v8, v9, v10, v11, v12, v13, v14, v15, v16, v17⟩) (first
    | (go_at_call 8; (with_reducible refine (H_cM.out _ ?c1).mono ?_); (case c1 => first | exact Keep.refl _ _ | exact (Keep.refl _ _).drew | exact (Keep.refl _ _).drewN _); rintro e y0 ⟨rfl, r⟩; have hy0 : Fresh w12 y0 := (by first | exact r | exact r.of_drew | exact r.of_drewN); have m0 := cell_fresh k0 hy0; have m1 := cell_fresh k1 hy0; have m2 := cell_fresh k2 hy0; have m3 := cell_fresh k3 hy0; have m4 := cell_fresh k4 hy0; have m5 := cell_fresh k5 hy0; have m6 := cell_fresh k6 hy0; have m7 := cell_fresh k7 hy0; have m8 := cell_fresh k8 hy0; have m9 := cell_fresh k9 hy0; have m10 := cell_fresh k10 hy0; have m11 := cell_fresh k11 hy0; have m12 := cell_fresh k12 hy0; have m13 := cell_fresh k13 hy0; have m14 := cell_fresh k14 hy0; have m15 := cell_fresh k15 hy0; have m16 := cell_fresh k16 hy0; have m17 := cell_fresh k17 hy0; have hg0 : Fresh w12 y0 := hy0; have H_g0 := Lib.hid hg0; clear r hy0 hg0)
    | (go_at_call 12; (with_reducible refine (H_c1.out _ H_g0.out).mono ?_);  rintro e y1 ⟨rfl, r⟩; have hy1 : Fresh y0 y1 := r; have n0 := cell_fresh m0 hy1; have n1 := cell_fresh m1 hy1; have n2 := cell_fresh m2 hy1; have n3 := cell_fresh m3 hy1; have n4 := cell_fresh m4 hy1; have n5 := cell_fresh m5 hy1; have n6 := cell_fresh m6 hy1; have n7 := cell_fresh m7 hy1; have n8 := cell_fresh m8 hy1; have n9 := cell_fresh m9 hy1; have n10 := cell_fresh m10 hy1; have n11 := cell_fresh m11 hy1; have n12 := cell_fresh m12 hy1; have n13 := cell_fresh m13 hy1; have n14 := cell_fresh m14 hy1; have n15 := cell_fresh m15 hy1; have n16 := cell_fresh m16 hy1; have n17 := cell_fresh m17 hy1; have hg1 : Fresh w12 y1 := fresh_trans H_g0.out hy1; have H_g1 := Lib.hid hg1; clear r hy1 hg1)
    | (go_at_call 12; (with_reducible refine (H_c2.out _ H_g1.out).mono ?_);  rintro e y2 ⟨rfl, r⟩; have hy2 : Fresh y1 y2 := r; have o0 := cell_fresh n0 hy2; have o1 := cell_fresh n1 hy2; have o2 := cell_fresh n2 hy2; have o3 := cell_fresh n3 hy2; have o4 := cell_fresh n4 hy2; have o5 := cell_fresh n5 hy2; have o6 := cell_fresh n6 hy2; have o7 := cell_fresh n7 hy2; have o8 := cell_fresh n8 hy2; have o9 := cell_fresh n9 hy2; have o10 := cell_fresh n10 hy2; have o11 := cell_fresh n11 hy2; have o12 := cell_fresh n12 hy2; have o13 := cell_fresh n13 hy2; have o14 := cell_fresh n14 hy2; have o15 := cell_fresh n15 hy2; have o16 := cell_fresh n16 hy2; have o17 := cell_fresh n17 hy2; have hg2 : Fresh w12 y2 := fresh_trans H_g1.out hy2; have H_g2 := Lib.hid hg2; clear r hy2 hg2)
    | (go_at_call 12; (with_reducible refine (H_c3.out _ H_g2.out).mono ?_);  rintro e y3 ⟨rfl, r⟩; have hy3 : Fresh y2 y3 := r; have u0 := cell_fresh o0 hy3; have u1 := cell_fresh o1 hy3; have u2 := cell_fresh o2 hy3; have u3 := cell_fresh o3 hy3; have u4 := cell_fresh o4 hy3; have u5 := cell_fresh o5 hy3; have u6 := cell_fresh o6 hy3; have u7 := cell_fresh o7 hy3; have u8 := cell_fresh o8 hy3; have u9 := cell_fresh o9 hy3; have u10 := cell_fresh o10 hy3; have u11 := cell_fresh o11 hy3; have u12 := cell_fresh o12 hy3; have u13 := cell_fresh o13 hy3; have u14 := cell_fresh o14 hy3; have u15 := cell_fresh o15 hy3; have u16 := cell_fresh o16 hy3; have u17 := cell_fresh o17 hy3; have hg3 : Fresh w12 y3 := fresh_trans H_g2.out hy3; have H_g3 := Lib.hid hg3; clear r hy3 hg3)
    | (go_at_call 13; (with_reducible refine (gvLives_any _).mono ?_);  rintro e y4 ⟨rfl, r⟩; have hy4 : Fresh y3 y4 := r; have v0 := cell_fresh u0 hy4; have v1 := cell_fresh u1 hy4; have v2 := cell_fresh u2 hy4; have v3 := cell_fresh u3 hy4; have v4 := cell_fresh u4 hy4; have v5 := cell_fresh u5 hy4; have v6 := cell_fresh u6 hy4; have v7 := cell_fresh u7 hy4; have v8 := cell_fresh u8 hy4; have v9 := cell_fresh u9 hy4; have v10 := cell_fresh u10 hy4; have v11 := cell_fresh u11 hy4; have v12 := cell_fresh u12 hy4; have v13 := cell_fresh u13 hy4; have v14 := cell_fresh u14 hy4; have v15 := cell_fresh u15 hy4; have v16 := cell_fresh u16 hy4; have v17 := cell_fresh u17 hy4; have hg4 : Fresh w12 y4 := fresh_trans H_g3.out hy4; have H_g4 := Lib.hid hg4; clear r hy4 hg4))
  go_wp2
  go_ret
  exact ⟨by rfl, fresh_trans H_fa12.out H_g4.out⟩

set_option maxRecDepth 20000 in
set_option maxHeartbeats 4000000 in
theorem FnFixSigns_C (n1 : Bool) (c1 c2 s1 s2 : Nat) (w : World) (hs1 : s1 ≤ 19) (hs2 : s2 ≤ 19) (hc1 : c1 ≤ 9999999999999999999) (hc2 : c2 ≤ 9999999999999999999) (h3 : c2 = 0) :
    Calls Tryz.prog 3 #[fx n1 c1 s1, fx true c2 s2] w (VRet w (.bool true)) := by
  have h : (fixIs c1 s1 && fixIs c2 s2) = true := by unfold fixIs; simp; omega
  have t1 : decide (0 < c2) = false := by simp; omega
  have t2 : decide ((0 : Int) < (c2 : Int)) = false := by simp; omega
  have H_h3 := Lib.hid h3
  clear h3
  obtain ⟨g, hg⟩ : ∃ g, g = w.heap.size := ⟨_, rfl⟩
  have bx := boxes3 w #[.bool n1, .int .u64 c1, .int .i64 s1] #[.bool true, .int .u64 c2, .int .i64 s2] #[.bool n1, .int .u64 c1, .int .i64 s1, .bool true, .int .u64 c2, .int .i64 s2] 24 24 24 g hg
  have H_bx := Lib.hid bx; clear bx
  have H_h := Lib.hid h; clear h
  go_enter Tryz.func3, Tryz.ntmps3
  go_wp2_with (fail)
  generalize hw1 : ((w.alloc _).alloc _).alloc _ = w1
  rw [← hg]
  obtain ⟨b1, b2, b3, hf, hgs⟩ := H_bx.out w1 hw1
  refine (FixAll_two n1 true c1 c2 s1 s2 _ _ b3).mono ?_
  rintro e w2 ⟨rfl, f2⟩
  rw [H_h.out]
  have d1 := row_fresh b1 f2
  have e1 := row_fresh b2 f2
  have hfa := fresh_trans hf f2
  have k0 := row_cell d1 0
  have k1 := row_cell d1 1
  have k2 := row_cell d1 2
  simp at k0 k1 k2
  clear b1 b2 b3 hf f2
  have H_d1 := Lib.hid d1; clear d1
  have H_e1 := Lib.hid e1; clear e1
  have H_hw1 := Lib.hid hw1; clear hw1
  have H_hg := Lib.hid hg; clear hg
  have H_hgs := Lib.hid hgs; clear hgs
  have H_hfa := Lib.hid hfa; clear hfa
  go_wp2_with (fail)
  refine (FixDec_any n1 c1 s1 _ hs1 hc1).mono ?_
  rintro e w3 ⟨v, l, rfl, r1, r2, r3, r4⟩
  obtain ⟨av, cv, rfl⟩ := r1.form
  have d2 := row_fresh H_d1.out r4
  have e2 := row_fresh H_e1.out r4
  clear k0 k1 k2
  have z0 := row_cell d2 0
  have z1 := row_cell d2 1
  have z2 := row_cell d2 2
  simp at z0 z1 z2
  have k0 := fun o1 o2 o3 => cell_fresh z0 ((((Keep.refl (fun _ => False) w3).alloc o1).alloc o2).alloc o3)
  have k1 := fun o1 o2 o3 => cell_fresh z1 ((((Keep.refl (fun _ => False) w3).alloc o1).alloc o2).alloc o3)
  have k2 := fun o1 o2 o3 => cell_fresh z2 ((((Keep.refl (fun _ => False) w3).alloc o1).alloc o2).alloc o3)
  clear z0 z1 z2
  have z0 := row_cell e2 0
  have z1 := row_cell e2 1
  have z2 := row_cell e2 2
  simp at z0 z1 z2
  have m0 := fun o1 o2 o3 => cell_fresh z0 ((((Keep.refl (fun _ => False) w3).alloc o1).alloc o2).alloc o3)
  have m1 := fun o1 o2 o3 => cell_fresh z1 ((((Keep.refl (fun _ => False) w3).alloc o1).alloc o2).alloc o3)
  have m2 := fun o1 o2 o3 => cell_fresh z2 ((((Keep.refl (fun _ => False) w3).alloc o1).alloc o2).alloc o3)
  clear z0 z1 z2
  obtain ⟨nx, hnx⟩ : ∃ n, n = (n1 && decide (0 < l.length)) := ⟨_, rfl⟩
  rw [← hnx]
  obtain ⟨X, hX⟩ : ∃ X, X = w3.heap.size := ⟨_, rfl⟩
  have by_ := boxes3 w3 #[.bool nx, .slice av l.length cv, .int .i64 (-(s1 : Int))] #[.bool false, .slice av l.length cv, .int .i64 (-(s1 : Int))] #[.bool false, .slice av l.length cv, .int .i64 (-(s1 : Int))] 31 31 31 X hX
  have gX : g + 1 < X := by rw [hX]; exact lt_of_row e2
  have hfb := fresh_trans H_hfa.out r4
  have H_d2 := Lib.hid d2; clear d2
  have H_e2 := Lib.hid e2; clear e2
  have H_r1 := Lib.hid r1; clear r1
  have H_r2 := Lib.hid r2; clear r2
  have H_r3 := Lib.hid r3; clear r3
  have H_r4 := Lib.hid r4; clear r4
  have H_hnx := Lib.hid hnx; clear hnx
  have H_by_ := Lib.hid by_; clear by_
  have H_hfb := Lib.hid hfb; clear hfb
  have H_hX := Lib.hid hX; clear hX
  have H_gX := Lib.hid gX; clear gX
  go_wp2_with (fail)
  generalize hw4 : ((w3.alloc _).alloc _).alloc _ = w4
  rw [← H_hX.out]
  obtain ⟨x1, u1, a1, f4, hXs⟩ := H_by_.out w4 hw4
  have d3 := row_fresh H_d2.out f4
  have e3 := row_fresh H_e2.out f4
  have hs4 := H_r1.out.fresh f4
  have hfc := fresh_trans H_hfb.out f4
  clear k0 k1 k2 m0 m1 m2
  have gX' := H_gX.out
  have H_x1 := Lib.hid x1; clear x1
  have H_u1 := Lib.hid u1; clear u1
  have H_a1 := Lib.hid a1; clear a1
  have H_d3 := Lib.hid d3; clear d3
  have H_e3 := Lib.hid e3; clear e3
  have H_hs4 := Lib.hid hs4; clear hs4
  have H_hfc := Lib.hid hfc; clear hfc
  have H_hw4 := Lib.hid hw4; clear hw4
  have H_f4 := Lib.hid f4; clear f4
  have H_hXs := Lib.hid hXs; clear hXs
  have H_gX' := Lib.hid gX'; clear gX'
  refine (FixNeg_any n1 s1 c1 _ hs1 hc1).mono ?_
  rintro e w7 ⟨rfl, f7⟩
  have dA := row_fresh H_d3.out f7
  have z0 := row_cell dA 0
  have z1 := row_cell dA 1
  have z2 := row_cell dA 2
  simp at z0 z1 z2
  have k0 := fun o1 => cell_fresh z0 ((Keep.refl (fun _ => False) w7).alloc o1)
  have k1 := fun o1 => cell_fresh z1 ((Keep.refl (fun _ => False) w7).alloc o1)
  have k2 := fun o1 => cell_fresh z2 ((Keep.refl (fun _ => False) w7).alloc o1)
  clear z0 z1 z2
  obtain ⟨nP, hnP⟩ : ∃ n, n = (!(n1 && decide (0 < c1)) && decide (0 < c1)) := ⟨_, rfl⟩
  rw [← hnP]
  obtain ⟨P, hP⟩ : ∃ P, P = w7.heap.size := ⟨_, rfl⟩
  have H_dA := Lib.hid dA; clear dA
  have H_f7 := Lib.hid f7; clear f7
  have H_hnP := Lib.hid hnP; clear hnP
  have H_hP := Lib.hid hP; clear hP
  go_wp2_with (fail)
  generalize hw8 : w7.alloc _ = w8
  rw [← H_hP.out]
  have P8 : w8.heap[P]? = some (.cells #[.bool nP, .int .u64 c1, .int .i64 s1] 24 (0, 0)) := by rw [← hw8, H_hP.out]; exact heap_alloc_new w7 _
  have f8 : Fresh w7 w8 := by rw [← hw8]; exact (Keep.refl _ _).alloc _
  have d8 := row_fresh H_dA.out f8
  clear k0 k1 k2
  have H_P8 := Lib.hid P8; clear P8
  have H_f8 := Lib.hid f8; clear f8
  have H_d8 := Lib.hid d8; clear d8
  have H_hw8 := Lib.hid hw8; clear hw8
  refine (FixAbs_any n1 s1 c1 _ hs1 hc1).mono ?_
  rintro e w9 ⟨rfl, f9⟩
  have d9 := row_fresh H_d8.out f9
  have e9 := row_fresh (row_fresh (row_fresh H_e3.out H_f7.out) H_f8.out) f9
  have z0 := row_cell d9 0
  have z1 := row_cell d9 1
  have z2 := row_cell d9 2
  simp at z0 z1 z2
  have k0 := fun o1 => cell_fresh z0 ((Keep.refl (fun _ => False) w9).alloc o1)
  have k1 := fun o1 => cell_fresh z1 ((Keep.refl (fun _ => False) w9).alloc o1)
  have k2 := fun o1 => cell_fresh z2 ((Keep.refl (fun _ => False) w9).alloc o1)
  clear z0 z1 z2
  have z0 := row_cell e9 0
  have z1 := row_cell e9 1
  have z2 := row_cell e9 2
  simp at z0 z1 z2
  have m0 := fun o1 => cell_fresh z0 ((Keep.refl (fun _ => False) w9).alloc o1)
  have m1 := fun o1 => cell_fresh z1 ((Keep.refl (fun _ => False) w9).alloc o1)
  have m2 := fun o1 => cell_fresh z2 ((Keep.refl (fun _ => False) w9).alloc o1)
  clear z0 z1 z2
  obtain ⟨nQ, hnQ⟩ : ∃ n, n = (false && decide (0 < c1)) := ⟨_, rfl⟩
  rw [← hnQ]
  obtain ⟨Q, hQ⟩ : ∃ Q, Q = w9.heap.size := ⟨_, rfl⟩
  have H_d9 := Lib.hid d9; clear d9
  have H_e9 := Lib.hid e9; clear e9
  have H_f9 := Lib.hid f9; clear f9
  have H_hnQ := Lib.hid hnQ; clear hnQ
  have H_hQ := Lib.hid hQ; clear hQ
  go_wp2_with (fail)
  generalize hw10 : w9.alloc _ = w10
  rw [← H_hQ.out]
  have Q10 : w10.heap[Q]? = some (.cells #[.bool nQ, .int .u64 c1, .int .i64 s1] 24 (0, 0)) := by rw [← hw10, H_hQ.out]; exact heap_alloc_new w9 _
  have f10 : Fresh w9 w10 := by rw [← hw10]; exact (Keep.refl _ _).alloc _
  clear k0 k1 k2 m0 m1 m2
  have H_Q10 := Lib.hid Q10; clear Q10
  have H_f10 := Lib.hid f10; clear f10
  have H_hw10 := Lib.hid hw10; clear hw10
  refine (FixCopySign_any n1 true s1 c1 s2 c2 _ hs1 hc1 hs2 hc2).mono ?_
  rintro e w11 ⟨rfl, f11⟩
  obtain ⟨nR, hnR⟩ : ∃ n, n = ((true && decide (0 < c2)) && decide (0 < c1)) := ⟨_, rfl⟩
  rw [← hnR]
  obtain ⟨R, hR⟩ : ∃ R, R = w11.heap.size := ⟨_, rfl⟩
  have H_f11 := Lib.hid f11; clear f11
  have H_hnR := Lib.hid hnR; clear hnR
  have H_hR := Lib.hid hR; clear hR
  go_wp2_with (fail)
  generalize hw12 : w11.alloc _ = w12
  rw [← H_hR.out]
  have R12 : w12.heap[R]? = some (.cells #[.bool nR, .int .u64 c1, .int .i64 s1] 24 (0, 0)) := by rw [← hw12, H_hR.out]; exact heap_alloc_new w11 _
  have f12 : Fresh w11 w12 := by rw [← hw12]; exact (Keep.refl _ _).alloc _
  have fQ : Fresh w10 w12 := fresh_trans H_f11.out f12
  have fP : Fresh w8 w12 := fresh_trans H_f9.out (fresh_trans H_f10.out fQ)
  have fW : Fresh w4 w12 := fresh_trans H_f7.out (fresh_trans H_f8.out fP)
  have P12 := row_fresh H_P8.out fP
  have Q12 := row_fresh H_Q10.out fQ
  have x12 := row_fresh H_x1.out fW
  have u12 := row_fresh H_u1.out fW
  have a12 := row_fresh H_a1.out fW
  have s12 := H_hs4.out.fresh fW
  have fa12 := fresh_trans H_hfc.out fW
  have k0 := row_cell P12 0
  have k1 := row_cell P12 1
  have k2 := row_cell P12 2
  have k3 := row_cell Q12 0
  have k4 := row_cell Q12 1
  have k5 := row_cell Q12 2
  have k6 := row_cell R12 0
  have k7 := row_cell R12 1
  have k8 := row_cell R12 2
  have k9 := row_cell x12 0
  have k10 := row_cell x12 1
  have k11 := row_cell x12 2
  have k12 := row_cell u12 0
  have k13 := row_cell u12 1
  have k14 := row_cell u12 2
  have k15 := row_cell a12 0
  have k16 := row_cell a12 1
  have k17 := row_cell a12 2
  simp at k0 k1 k2 k3 k4 k5 k6 k7 k8 k9 k10 k11 k12 k13 k14 k15 k16 k17
  have H_R12 := Lib.hid R12; clear R12
  have H_f12 := Lib.hid f12; clear f12
  have H_fQ := Lib.hid fQ; clear fQ
  have H_fP := Lib.hid fP; clear fP
  have H_fW := Lib.hid fW; clear fW
  have H_P12 := Lib.hid P12; clear P12
  have H_Q12 := Lib.hid Q12; clear Q12
  have H_x12 := Lib.hid x12; clear x12
  have H_u12 := Lib.hid u12; clear u12
  have H_a12 := Lib.hid a12; clear a12
  have H_s12 := Lib.hid s12; clear s12
  have H_fa12 := Lib.hid fa12; clear fa12
  have H_hw12 := Lib.hid hw12; clear hw12
  have cM : ∀ W, Fresh w12 W → Calls Tryz.prog 8 #[swh nx (.slice av l.length cv)] W (fun e w' => e = .returned (swh (!nx && decide (0 < l.length)) (.slice av l.length cv)) ∧ Fresh W w') := fun W hW => Minus_any nx _ l W (H_s12.out.fresh hW)
  have c1_ : ∀ W, Fresh w12 W → Calls Tryz.prog 12 #[fx nP c1 s1, .agg #[.bool (!nx && decide (0 < l.length)), .slice av l.length cv, .int .i64 (-(s1 : Int))]] W (VRet W (.bool true)) := fun W hW => FixSame_any nP c1 s1 _ _ l W hs1 hc1 (by rw [H_hnP.out]; simp) (H_s12.out.fresh hW) H_r2.out (by rintro rfl; simp) (by rw [H_hnP.out, H_hnx.out]; exact sg_neg H_r2.out H_r3.out) (by have := len_of H_r2.out H_r3.out hc1; omega)
  have c2_ : ∀ W, Fresh w12 W → Calls Tryz.prog 12 #[fx nQ c1 s1, .agg #[.bool false, .slice av l.length cv, .int .i64 (-(s1 : Int))]] W (VRet W (.bool true)) := fun W hW => FixSame_any nQ c1 s1 _ _ l W hs1 hc1 (by rw [H_hnQ.out]; simp) (H_s12.out.fresh hW) H_r2.out (by rintro rfl; rfl) (by rw [H_hnQ.out]; exact sg_abs H_r3.out) (by have := len_of H_r2.out H_r3.out hc1; omega)
  have c3_ : ∀ W, Fresh w12 W → Calls Tryz.prog 12 #[fx nR c1 s1, .agg #[.bool false, .slice av l.length cv, .int .i64 (-(s1 : Int))]] W (VRet W (.bool true)) := fun W hW => FixSame_any nR c1 s1 _ _ l W hs1 hc1 (by rw [H_hnR.out]; simp) (H_s12.out.fresh hW) H_r2.out (by rintro rfl; rfl) (by rw [H_hnR.out]; rw [t1]; exact sg_abs' (by simp) H_r3.out) (by have := len_of H_r2.out H_r3.out hc1; omega)
  have H_cM := Lib.hid cM
  have H_c1 := Lib.hid c1_
  have H_c2 := Lib.hid c2_
  have H_c3 := Lib.hid c3_
  clear cM c1_ c2_ c3_
  go_region_held3 (fun (w' : World) => w'.cell? ⟨P, 0, none⟩ = some (.bool nP) ∧ w'.cell? ⟨P, 1, none⟩ = some (.int .u64 c1) ∧ w'.cell? ⟨P, 2, none⟩ = some (.int .i64 s1) ∧ w'.cell? ⟨Q, 0, none⟩ = some (.bool nQ) ∧ w'.cell? ⟨Q, 1, none⟩ = some (.int .u64 c1) ∧ w'.cell? ⟨Q, 2, none⟩ = some (.int .i64 s1) ∧ w'.cell? ⟨R, 0, none⟩ = some (.bool nR) ∧ w'.cell? ⟨R, 1, none⟩ = some (.int .u64 c1) ∧ w'.cell? ⟨R, 2, none⟩ = some (.int .i64 s1) ∧ w'.cell? ⟨X, 0, none⟩ = some (.bool nx) ∧ w'.cell? ⟨X, 1, none⟩ = some (.slice av l.length cv) ∧ w'.cell? ⟨X, 2, none⟩ = some (.int .i64 (-(s1 : Int))) ∧ w'.cell? ⟨X + 1, 0, none⟩ = some (.bool false) ∧ w'.cell? ⟨X + 1, 1, none⟩ = some (.slice av l.length cv) ∧ w'.cell? ⟨X + 1, 2, none⟩ = some (.int .i64 (-(s1 : Int))) ∧ w'.cell? ⟨X + 1 + 1, 0, none⟩ = some (.bool false) ∧ w'.cell? ⟨X + 1 + 1, 1, none⟩ = some (.slice av l.length cv) ∧ w'.cell? ⟨X + 1 + 1, 2, none⟩ = some (.int .i64 (-(s1 : Int)))) (first | exact ⟨k0, k1, k2, k3, k4, k5, k6, k7, k8, k9, k10, k11, k12, k13, k14, k15, k16, k17⟩ | exact ⟨m0, m1, m2, m3, m4, m5, m6, m7, m8, m9, m10, m11, m12, m13, m14, m15, m16, m17⟩ | exact ⟨n0, n1, n2, n3, n4, n5, n6, n7, n8, n9, n10, n11, n12, n13, n14, n15, n16, n17⟩ | exact ⟨o0, o1, o2, o3, o4, o5, o6, o7, o8, o9, o10, o11, o12, o13, o14, o15, o16, o17⟩ | exact ⟨u0, u1, u2, u3, u4, u5, u6, u7, u8, u9, u10, u11, u12, u13, u14, u15, u16, u17⟩ | exact ⟨v0, v1, v2, v3, v4, v5, v6, v7, v8, v9, v10, v11, v12, v13, v14, v15, v16, v17⟩) (first
    | (go_at_call 8; (with_reducible refine (H_cM.out _ ?c1).mono ?_); (case c1 => first | exact Keep.refl _ _ | exact (Keep.refl _ _).drew | exact (Keep.refl _ _).drewN _); rintro e y0 ⟨rfl, r⟩; have hy0 : Fresh w12 y0 := (by first | exact r | exact r.of_drew | exact r.of_drewN); have m0 := cell_fresh k0 hy0; have m1 := cell_fresh k1 hy0; have m2 := cell_fresh k2 hy0; have m3 := cell_fresh k3 hy0; have m4 := cell_fresh k4 hy0; have m5 := cell_fresh k5 hy0; have m6 := cell_fresh k6 hy0; have m7 := cell_fresh k7 hy0; have m8 := cell_fresh k8 hy0; have m9 := cell_fresh k9 hy0; have m10 := cell_fresh k10 hy0; have m11 := cell_fresh k11 hy0; have m12 := cell_fresh k12 hy0; have m13 := cell_fresh k13 hy0; have m14 := cell_fresh k14 hy0; have m15 := cell_fresh k15 hy0; have m16 := cell_fresh k16 hy0; have m17 := cell_fresh k17 hy0; have hg0 : Fresh w12 y0 := hy0; have H_g0 := Lib.hid hg0; clear r hy0 hg0)
    | (go_at_call 12; (with_reducible refine (H_c1.out _ H_g0.out).mono ?_);  rintro e y1 ⟨rfl, r⟩; have hy1 : Fresh y0 y1 := r; have n0 := cell_fresh m0 hy1; have n1 := cell_fresh m1 hy1; have n2 := cell_fresh m2 hy1; have n3 := cell_fresh m3 hy1; have n4 := cell_fresh m4 hy1; have n5 := cell_fresh m5 hy1; have n6 := cell_fresh m6 hy1; have n7 := cell_fresh m7 hy1; have n8 := cell_fresh m8 hy1; have n9 := cell_fresh m9 hy1; have n10 := cell_fresh m10 hy1; have n11 := cell_fresh m11 hy1; have n12 := cell_fresh m12 hy1; have n13 := cell_fresh m13 hy1; have n14 := cell_fresh m14 hy1; have n15 := cell_fresh m15 hy1; have n16 := cell_fresh m16 hy1; have n17 := cell_fresh m17 hy1; have hg1 : Fresh w12 y1 := fresh_trans H_g0.out hy1; have H_g1 := Lib.hid hg1; clear r hy1 hg1)
    | (go_at_call 12; (with_reducible refine (H_c2.out _ H_g1.out).mono ?_);  rintro e y2 ⟨rfl, r⟩; have hy2 : Fresh y1 y2 := r; have o0 := cell_fresh n0 hy2; have o1 := cell_fresh n1 hy2; have o2 := cell_fresh n2 hy2; have o3 := cell_fresh n3 hy2; have o4 := cell_fresh n4 hy2; have o5 := cell_fresh n5 hy2; have o6 := cell_fresh n6 hy2; have o7 := cell_fresh n7 hy2; have o8 := cell_fresh n8 hy2; have o9 := cell_fresh n9 hy2; have o10 := cell_fresh n10 hy2; have o11 := cell_fresh n11 hy2; have o12 := cell_fresh n12 hy2; have o13 := cell_fresh n13 hy2; have o14 := cell_fresh n14 hy2; have o15 := cell_fresh n15 hy2; have o16 := cell_fresh n16 hy2; have o17 := cell_fresh n17 hy2; have hg2 : Fresh w12 y2 := fresh_trans H_g1.out hy2; have H_g2 := Lib.hid hg2; clear r hy2 hg2)
    | (go_at_call 12; (with_reducible refine (H_c3.out _ H_g2.out).mono ?_);  rintro e y3 ⟨rfl, r⟩; have hy3 : Fresh y2 y3 := r; have u0 := cell_fresh o0 hy3; have u1 := cell_fresh o1 hy3; have u2 := cell_fresh o2 hy3; have u3 := cell_fresh o3 hy3; have u4 := cell_fresh o4 hy3; have u5 := cell_fresh o5 hy3; have u6 := cell_fresh o6 hy3; have u7 := cell_fresh o7 hy3; have u8 := cell_fresh o8 hy3; have u9 := cell_fresh o9 hy3; have u10 := cell_fresh o10 hy3; have u11 := cell_fresh o11 hy3; have u12 := cell_fresh o12 hy3; have u13 := cell_fresh o13 hy3; have u14 := cell_fresh o14 hy3; have u15 := cell_fresh o15 hy3; have u16 := cell_fresh o16 hy3; have u17 := cell_fresh o17 hy3; have hg3 : Fresh w12 y3 := fresh_trans H_g2.out hy3; have H_g3 := Lib.hid hg3; clear r hy3 hg3)
    | (go_at_call 13; (with_reducible refine (gvLives_any _).mono ?_);  rintro e y4 ⟨rfl, r⟩; have hy4 : Fresh y3 y4 := r; have v0 := cell_fresh u0 hy4; have v1 := cell_fresh u1 hy4; have v2 := cell_fresh u2 hy4; have v3 := cell_fresh u3 hy4; have v4 := cell_fresh u4 hy4; have v5 := cell_fresh u5 hy4; have v6 := cell_fresh u6 hy4; have v7 := cell_fresh u7 hy4; have v8 := cell_fresh u8 hy4; have v9 := cell_fresh u9 hy4; have v10 := cell_fresh u10 hy4; have v11 := cell_fresh u11 hy4; have v12 := cell_fresh u12 hy4; have v13 := cell_fresh u13 hy4; have v14 := cell_fresh u14 hy4; have v15 := cell_fresh u15 hy4; have v16 := cell_fresh u16 hy4; have v17 := cell_fresh u17 hy4; have hg4 : Fresh w12 y4 := fresh_trans H_g3.out hy4; have H_g4 := Lib.hid hg4; clear r hy4 hg4))
  go_wp2
  go_ret
  exact ⟨by rfl, fresh_trans H_fa12.out H_g4.out⟩

set_option maxRecDepth 20000 in
set_option maxHeartbeats 4000000 in
theorem FnFixSigns_B (n1 : Bool) (c1 c2 s1 s2 : Nat) (w : World) (hs1 : s1 ≤ 19) (hs2 : s2 ≤ 19) (hc1 : c1 ≤ 9999999999999999999) (hc2 : c2 ≤ 9999999999999999999) (h3 : 0 < c2) :
    Calls Tryz.prog 3 #[fx n1 c1 s1, fx true c2 s2] w (VRet w (.bool true)) := by
  have h : (fixIs c1 s1 && fixIs c2 s2) = true := by unfold fixIs; simp; omega
  have t1 : decide (0 < c2) = true := by simp; omega
  have t2 : decide ((0 : Int) < (c2 : Int)) = true := by simp; omega
  have H_h3 := Lib.hid h3
  clear h3
  obtain ⟨g, hg⟩ : ∃ g, g = w.heap.size := ⟨_, rfl⟩
  have bx := boxes3 w #[.bool n1, .int .u64 c1, .int .i64 s1] #[.bool true, .int .u64 c2, .int .i64 s2] #[.bool n1, .int .u64 c1, .int .i64 s1, .bool true, .int .u64 c2, .int .i64 s2] 24 24 24 g hg
  have H_bx := Lib.hid bx; clear bx
  have H_h := Lib.hid h; clear h
  go_enter Tryz.func3, Tryz.ntmps3
  go_wp2_with (fail)
  generalize hw1 : ((w.alloc _).alloc _).alloc _ = w1
  rw [← hg]
  obtain ⟨b1, b2, b3, hf, hgs⟩ := H_bx.out w1 hw1
  refine (FixAll_two n1 true c1 c2 s1 s2 _ _ b3).mono ?_
  rintro e w2 ⟨rfl, f2⟩
  rw [H_h.out]
  have d1 := row_fresh b1 f2
  have e1 := row_fresh b2 f2
  have hfa := fresh_trans hf f2
  have k0 := row_cell d1 0
  have k1 := row_cell d1 1
  have k2 := row_cell d1 2
  simp at k0 k1 k2
  clear b1 b2 b3 hf f2
  have H_d1 := Lib.hid d1; clear d1
  have H_e1 := Lib.hid e1; clear e1
  have H_hw1 := Lib.hid hw1; clear hw1
  have H_hg := Lib.hid hg; clear hg
  have H_hgs := Lib.hid hgs; clear hgs
  have H_hfa := Lib.hid hfa; clear hfa
  go_wp2_with (fail)
  refine (FixDec_any n1 c1 s1 _ hs1 hc1).mono ?_
  rintro e w3 ⟨v, l, rfl, r1, r2, r3, r4⟩
  obtain ⟨av, cv, rfl⟩ := r1.form
  have d2 := row_fresh H_d1.out r4
  have e2 := row_fresh H_e1.out r4
  clear k0 k1 k2
  have z0 := row_cell d2 0
  have z1 := row_cell d2 1
  have z2 := row_cell d2 2
  simp at z0 z1 z2
  have k0 := fun o1 o2 o3 => cell_fresh z0 ((((Keep.refl (fun _ => False) w3).alloc o1).alloc o2).alloc o3)
  have k1 := fun o1 o2 o3 => cell_fresh z1 ((((Keep.refl (fun _ => False) w3).alloc o1).alloc o2).alloc o3)
  have k2 := fun o1 o2 o3 => cell_fresh z2 ((((Keep.refl (fun _ => False) w3).alloc o1).alloc o2).alloc o3)
  clear z0 z1 z2
  have z0 := row_cell e2 0
  have z1 := row_cell e2 1
  have z2 := row_cell e2 2
  simp at z0 z1 z2
  have m0 := fun o1 o2 o3 => cell_fresh z0 ((((Keep.refl (fun _ => False) w3).alloc o1).alloc o2).alloc o3)
  have m1 := fun o1 o2 o3 => cell_fresh z1 ((((Keep.refl (fun _ => False) w3).alloc o1).alloc o2).alloc o3)
  have m2 := fun o1 o2 o3 => cell_fresh z2 ((((Keep.refl (fun _ => False) w3).alloc o1).alloc o2).alloc o3)
  clear z0 z1 z2
  obtain ⟨nx, hnx⟩ : ∃ n, n = (n1 && decide (0 < l.length)) := ⟨_, rfl⟩
  rw [← hnx]
  obtain ⟨X, hX⟩ : ∃ X, X = w3.heap.size := ⟨_, rfl⟩
  have by_ := boxes3 w3 #[.bool nx, .slice av l.length cv, .int .i64 (-(s1 : Int))] #[.bool false, .slice av l.length cv, .int .i64 (-(s1 : Int))] #[.bool false, .slice av l.length cv, .int .i64 (-(s1 : Int))] 31 31 31 X hX
  have gX : g + 1 < X := by rw [hX]; exact lt_of_row e2
  have hfb := fresh_trans H_hfa.out r4
  have H_d2 := Lib.hid d2; clear d2
  have H_e2 := Lib.hid e2; clear e2
  have H_r1 := Lib.hid r1; clear r1
  have H_r2 := Lib.hid r2; clear r2
  have H_r3 := Lib.hid r3; clear r3
  have H_r4 := Lib.hid r4; clear r4
  have H_hnx := Lib.hid hnx; clear hnx
  have H_by_ := Lib.hid by_; clear by_
  have H_hfb := Lib.hid hfb; clear hfb
  have H_hX := Lib.hid hX; clear hX
  have H_gX := Lib.hid gX; clear gX
  go_wp2_with (fail)
  generalize hw4 : ((w3.alloc _).alloc _).alloc _ = w4
  rw [← H_hX.out]
  obtain ⟨x1, u1, a1, f4, hXs⟩ := H_by_.out w4 hw4
  have d3 := row_fresh H_d2.out f4
  have e3 := row_fresh H_e2.out f4
  have hs4 := H_r1.out.fresh f4
  have hfc := fresh_trans H_hfb.out f4
  clear k0 k1 k2 m0 m1 m2
  have gX' := H_gX.out
  refine (Minus_any false _ l _ hs4).mono ?_
  rintro e w5 ⟨rfl, f5⟩
  have hs5 := hs4.fresh f5
  have x2 := row_fresh x1 f5
  have u2 := row_fresh u1 f5
  have a2 := row_fresh a1 f5
  have d4 := row_fresh d3 f5
  have e4 := row_fresh e3 f5
  have hfd := fresh_trans hfc f5
  have z0 := row_cell d4 0
  have z1 := row_cell d4 1
  have z2 := row_cell d4 2
  simp at z0 z1 z2
  have p0 := row_cell a2 0
  have p1 := row_cell a2 1
  have p2 := row_cell a2 2
  simp at p0 p1 p2
  have q0 : w5.frozen? ⟨X + 1 + 1, 0, none⟩ = false := frozen_of_row _ _ _ _ _ a2
  have q1 : w5.frozen? ⟨X + 1 + 1, 1, none⟩ = false := frozen_of_row _ _ _ _ _ a2
  have q2 : w5.frozen? ⟨X + 1 + 1, 2, none⟩ = false := frozen_of_row _ _ _ _ _ a2
  have k0 := fun v1 v2 => far2 (o1 := 0) (o2 := 1) (v1 := v1) (v2 := v2) (show g ≠ X + 1 + 1 by omega) z0
  have k1 := fun v1 v2 => far2 (o1 := 0) (o2 := 1) (v1 := v1) (v2 := v2) (show g ≠ X + 1 + 1 by omega) z1
  have k2 := fun v1 v2 => far2 (o1 := 0) (o2 := 1) (v1 := v1) (v2 := v2) (show g ≠ X + 1 + 1 by omega) z2
  clear z0 z1 z2
  have H_x1 := Lib.hid x1; clear x1
  have H_u1 := Lib.hid u1; clear u1
  have H_a1 := Lib.hid a1; clear a1
  have H_d3 := Lib.hid d3; clear d3
  have H_e3 := Lib.hid e3; clear e3
  have H_hs4 := Lib.hid hs4; clear hs4
  have H_hfc := Lib.hid hfc; clear hfc
  have H_hw4 := Lib.hid hw4; clear hw4
  have H_f4 := Lib.hid f4; clear f4
  have H_hXs := Lib.hid hXs; clear hXs
  have H_gX' := Lib.hid gX'; clear gX'
  have H_f5 := Lib.hid f5; clear f5
  have H_hs5 := Lib.hid hs5; clear hs5
  have H_x2 := Lib.hid x2; clear x2
  have H_u2 := Lib.hid u2; clear u2
  have H_a2 := Lib.hid a2; clear a2
  have H_d4 := Lib.hid d4; clear d4
  have H_e4 := Lib.hid e4; clear e4
  have H_hfd := Lib.hid hfd; clear hfd
  go_wp2_with (fail)
  generalize hw6 : (w5.setCell _ _).setCell _ _ = w6
  have d5 := (show w6.heap[g]? = w5.heap[g]? by rw [← hw6, row_far (by have := H_gX'.out; omega), row_far (by have := H_gX'.out; omega)]).trans H_d4.out
  have e5 := (show w6.heap[g + 1]? = w5.heap[g + 1]? by rw [← hw6, row_far (by have := H_gX'.out; omega), row_far (by have := H_gX'.out; omega)]).trans H_e4.out
  have x5 := (show w6.heap[X]? = w5.heap[X]? by rw [← hw6, row_far (by omega), row_far (by omega)]).trans H_x2.out
  have u5 := (show w6.heap[X + 1]? = w5.heap[X + 1]? by rw [← hw6, row_far (by omega), row_far (by omega)]).trans H_u2.out
  have a5 : w6.heap[X + 1 + 1]? = some (.cells #[.bool (decide (0 < l.length)), .slice av l.length cv, .int .i64 (-(s1 : Int))] 31 (0, 0)) := by rw [← hw6]; exact row_set (row_set H_a2.out)
  have f6 := H_hs5.out.off p0 (fun n e => by simp at e)
  have hs6 : SNat w6 (.slice av l.length cv) l := by rw [← hw6]; exact (H_hs5.out.setOff f6).setOff f6
  have hfe : Fresh w w6 := by
    rw [← hw6]
    have hk : w.heap.size ≤ X + 1 + 1 := by have := H_hg.out; have := H_gX'.out; omega
    exact (H_hfd.out.setCell (fun h => absurd h (by show ¬ X + 1 + 1 < w.heap.size; omega)) _).setCell (fun h => absurd h (by show ¬ X + 1 + 1 < w.heap.size; omega)) _
  clear p0 p1 p2 q0 q1 q2 k0 k1 k2
  have H_d5 := Lib.hid d5; clear d5
  have H_e5 := Lib.hid e5; clear e5
  have H_x5 := Lib.hid x5; clear x5
  have H_u5 := Lib.hid u5; clear u5
  have H_a5 := Lib.hid a5; clear a5
  have H_f6 := Lib.hid f6; clear f6
  have H_hs6 := Lib.hid hs6; clear hs6
  have H_hfe := Lib.hid hfe; clear hfe
  have H_hw6 := Lib.hid hw6; clear hw6
  refine (FixNeg_any n1 s1 c1 _ hs1 hc1).mono ?_
  rintro e w7 ⟨rfl, f7⟩
  have dA := row_fresh H_d5.out f7
  have z0 := row_cell dA 0
  have z1 := row_cell dA 1
  have z2 := row_cell dA 2
  simp at z0 z1 z2
  have k0 := fun o1 => cell_fresh z0 ((Keep.refl (fun _ => False) w7).alloc o1)
  have k1 := fun o1 => cell_fresh z1 ((Keep.refl (fun _ => False) w7).alloc o1)
  have k2 := fun o1 => cell_fresh z2 ((Keep.refl (fun _ => False) w7).alloc o1)
  clear z0 z1 z2
  obtain ⟨nP, hnP⟩ : ∃ n, n = (!(n1 && decide (0 < c1)) && decide (0 < c1)) := ⟨_, rfl⟩
  rw [← hnP]
  obtain ⟨P, hP⟩ : ∃ P, P = w7.heap.size := ⟨_, rfl⟩
  have H_dA := Lib.hid dA; clear dA
  have H_f7 := Lib.hid f7; clear f7
  have H_hnP := Lib.hid hnP; clear hnP
  have H_hP := Lib.hid hP; clear hP
  go_wp2_with (fail)
  generalize hw8 : w7.alloc _ = w8
  rw [← H_hP.out]
  have P8 : w8.heap[P]? = some (.cells #[.bool nP, .int .u64 c1, .int .i64 s1] 24 (0, 0)) := by rw [← hw8, H_hP.out]; exact heap_alloc_new w7 _
  have f8 : Fresh w7 w8 := by rw [← hw8]; exact (Keep.refl _ _).alloc _
  have d8 := row_fresh H_dA.out f8
  clear k0 k1 k2
  have H_P8 := Lib.hid P8; clear P8
  have H_f8 := Lib.hid f8; clear f8
  have H_d8 := Lib.hid d8; clear d8
  have H_hw8 := Lib.hid hw8; clear hw8
  refine (FixAbs_any n1 s1 c1 _ hs1 hc1).mono ?_
  rintro e w9 ⟨rfl, f9⟩
  have d9 := row_fresh H_d8.out f9
  have e9 := row_fresh (row_fresh (row_fresh H_e5.out H_f7.out) H_f8.out) f9
  have z0 := row_cell d9 0
  have z1 := row_cell d9 1
  have z2 := row_cell d9 2
  simp at z0 z1 z2
  have k0 := fun o1 => cell_fresh z0 ((Keep.refl (fun _ => False) w9).alloc o1)
  have k1 := fun o1 => cell_fresh z1 ((Keep.refl (fun _ => False) w9).alloc o1)
  have k2 := fun o1 => cell_fresh z2 ((Keep.refl (fun _ => False) w9).alloc o1)
  clear z0 z1 z2
  have z0 := row_cell e9 0
  have z1 := row_cell e9 1
  have z2 := row_cell e9 2
  simp at z0 z1 z2
  have m0 := fun o1 => cell_fresh z0 ((Keep.refl (fun _ => False) w9).alloc o1)
  have m1 := fun o1 => cell_fresh z1 ((Keep.refl (fun _ => False) w9).alloc o1)
  have m2 := fun o1 => cell_fresh z2 ((Keep.refl (fun _ => False) w9).alloc o1)
  clear z0 z1 z2
  obtain ⟨nQ, hnQ⟩ : ∃ n, n = (false && decide (0 < c1)) := ⟨_, rfl⟩
  rw [← hnQ]
  obtain ⟨Q, hQ⟩ : ∃ Q, Q = w9.heap.size := ⟨_, rfl⟩
  have H_d9 := Lib.hid d9; clear d9
  have H_e9 := Lib.hid e9; clear e9
  have H_f9 := Lib.hid f9; clear f9
  have H_hnQ := Lib.hid hnQ; clear hnQ
  have H_hQ := Lib.hid hQ; clear hQ
  go_wp2_with (fail)
  generalize hw10 : w9.alloc _ = w10
  rw [← H_hQ.out]
  have Q10 : w10.heap[Q]? = some (.cells #[.bool nQ, .int .u64 c1, .int .i64 s1] 24 (0, 0)) := by rw [← hw10, H_hQ.out]; exact heap_alloc_new w9 _
  have f10 : Fresh w9 w10 := by rw [← hw10]; exact (Keep.refl _ _).alloc _
  clear k0 k1 k2 m0 m1 m2
  have H_Q10 := Lib.hid Q10; clear Q10
  have H_f10 := Lib.hid f10; clear f10
  have H_hw10 := Lib.hid hw10; clear hw10
  refine (FixCopySign_any n1 true s1 c1 s2 c2 _ hs1 hc1 hs2 hc2).mono ?_
  rintro e w11 ⟨rfl, f11⟩
  obtain ⟨nR, hnR⟩ : ∃ n, n = ((true && decide (0 < c2)) && decide (0 < c1)) := ⟨_, rfl⟩
  rw [← hnR]
  obtain ⟨R, hR⟩ : ∃ R, R = w11.heap.size := ⟨_, rfl⟩
  have H_f11 := Lib.hid f11; clear f11
  have H_hnR := Lib.hid hnR; clear hnR
  have H_hR := Lib.hid hR; clear hR
  go_wp2_with (fail)
  generalize hw12 : w11.alloc _ = w12
  rw [← H_hR.out]
  have R12 : w12.heap[R]? = some (.cells #[.bool nR, .int .u64 c1, .int .i64 s1] 24 (0, 0)) := by rw [← hw12, H_hR.out]; exact heap_alloc_new w11 _
  have f12 : Fresh w11 w12 := by rw [← hw12]; exact (Keep.refl _ _).alloc _
  have fQ : Fresh w10 w12 := fresh_trans H_f11.out f12
  have fP : Fresh w8 w12 := fresh_trans H_f9.out (fresh_trans H_f10.out fQ)
  have fW : Fresh w6 w12 := fresh_trans H_f7.out (fresh_trans H_f8.out fP)
  have P12 := row_fresh H_P8.out fP
  have Q12 := row_fresh H_Q10.out fQ
  have x12 := row_fresh H_x5.out fW
  have u12 := row_fresh H_u5.out fW
  have a12 := row_fresh H_a5.out fW
  have s12 := H_hs6.out.fresh fW
  have fa12 := fresh_trans H_hfe.out fW
  have k0 := row_cell P12 0
  have k1 := row_cell P12 1
  have k2 := row_cell P12 2
  have k3 := row_cell Q12 0
  have k4 := row_cell Q12 1
  have k5 := row_cell Q12 2
  have k6 := row_cell R12 0
  have k7 := row_cell R12 1
  have k8 := row_cell R12 2
  have k9 := row_cell x12 0
  have k10 := row_cell x12 1
  have k11 := row_cell x12 2
  have k12 := row_cell u12 0
  have k13 := row_cell u12 1
  have k14 := row_cell u12 2
  have k15 := row_cell a12 0
  have k16 := row_cell a12 1
  have k17 := row_cell a12 2
  simp at k0 k1 k2 k3 k4 k5 k6 k7 k8 k9 k10 k11 k12 k13 k14 k15 k16 k17
  have H_R12 := Lib.hid R12; clear R12
  have H_f12 := Lib.hid f12; clear f12
  have H_fQ := Lib.hid fQ; clear fQ
  have H_fP := Lib.hid fP; clear fP
  have H_fW := Lib.hid fW; clear fW
  have H_P12 := Lib.hid P12; clear P12
  have H_Q12 := Lib.hid Q12; clear Q12
  have H_x12 := Lib.hid x12; clear x12
  have H_u12 := Lib.hid u12; clear u12
  have H_a12 := Lib.hid a12; clear a12
  have H_s12 := Lib.hid s12; clear s12
  have H_fa12 := Lib.hid fa12; clear fa12
  have H_hw12 := Lib.hid hw12; clear hw12
  have cM : ∀ W, Fresh w12 W → Calls Tryz.prog 8 #[swh nx (.slice av l.length cv)] W (fun e w' => e = .returned (swh (!nx && decide (0 < l.length)) (.slice av l.length cv)) ∧ Fresh W w') := fun W hW => Minus_any nx _ l W (H_s12.out.fresh hW)
  have c1_ : ∀ W, Fresh w12 W → Calls Tryz.prog 12 #[fx nP c1 s1, .agg #[.bool (!nx && decide (0 < l.length)), .slice av l.length cv, .int .i64 (-(s1 : Int))]] W (VRet W (.bool true)) := fun W hW => FixSame_any nP c1 s1 _ _ l W hs1 hc1 (by rw [H_hnP.out]; simp) (H_s12.out.fresh hW) H_r2.out (by rintro rfl; simp) (by rw [H_hnP.out, H_hnx.out]; exact sg_neg H_r2.out H_r3.out) (by have := len_of H_r2.out H_r3.out hc1; omega)
  have c2_ : ∀ W, Fresh w12 W → Calls Tryz.prog 12 #[fx nQ c1 s1, .agg #[.bool false, .slice av l.length cv, .int .i64 (-(s1 : Int))]] W (VRet W (.bool true)) := fun W hW => FixSame_any nQ c1 s1 _ _ l W hs1 hc1 (by rw [H_hnQ.out]; simp) (H_s12.out.fresh hW) H_r2.out (by rintro rfl; rfl) (by rw [H_hnQ.out]; exact sg_abs H_r3.out) (by have := len_of H_r2.out H_r3.out hc1; omega)
  have c3_ : ∀ W, Fresh w12 W → Calls Tryz.prog 12 #[fx nR c1 s1, .agg #[.bool (decide (0 < l.length)), .slice av l.length cv, .int .i64 (-(s1 : Int))]] W (VRet W (.bool true)) := fun W hW => FixSame_any nR c1 s1 _ _ l W hs1 hc1 (by rw [H_hnR.out]; simp) (H_s12.out.fresh hW) H_r2.out (by rintro rfl; rfl) (by rw [H_hnR.out]; rw [t1]; exact sg_as1 H_r2.out H_r3.out) (by have := len_of H_r2.out H_r3.out hc1; omega)
  have H_cM := Lib.hid cM
  have H_c1 := Lib.hid c1_
  have H_c2 := Lib.hid c2_
  have H_c3 := Lib.hid c3_
  clear cM c1_ c2_ c3_
  go_region_held3 (fun (w' : World) => w'.cell? ⟨P, 0, none⟩ = some (.bool nP) ∧ w'.cell? ⟨P, 1, none⟩ = some (.int .u64 c1) ∧ w'.cell? ⟨P, 2, none⟩ = some (.int .i64 s1) ∧ w'.cell? ⟨Q, 0, none⟩ = some (.bool nQ) ∧ w'.cell? ⟨Q, 1, none⟩ = some (.int .u64 c1) ∧ w'.cell? ⟨Q, 2, none⟩ = some (.int .i64 s1) ∧ w'.cell? ⟨R, 0, none⟩ = some (.bool nR) ∧ w'.cell? ⟨R, 1, none⟩ = some (.int .u64 c1) ∧ w'.cell? ⟨R, 2, none⟩ = some (.int .i64 s1) ∧ w'.cell? ⟨X, 0, none⟩ = some (.bool nx) ∧ w'.cell? ⟨X, 1, none⟩ = some (.slice av l.length cv) ∧ w'.cell? ⟨X, 2, none⟩ = some (.int .i64 (-(s1 : Int))) ∧ w'.cell? ⟨X + 1, 0, none⟩ = some (.bool false) ∧ w'.cell? ⟨X + 1, 1, none⟩ = some (.slice av l.length cv) ∧ w'.cell? ⟨X + 1, 2, none⟩ = some (.int .i64 (-(s1 : Int))) ∧ w'.cell? ⟨X + 1 + 1, 0, none⟩ = some (.bool (decide (0 < l.length))) ∧ w'.cell? ⟨X + 1 + 1, 1, none⟩ = some (.slice av l.length cv) ∧ w'.cell? ⟨X + 1 + 1, 2, none⟩ = some (.int .i64 (-(s1 : Int)))) (first | exact ⟨k0, k1, k2, k3, k4, k5, k6, k7, k8, k9, k10, k11, k12, k13, k14, k15, k16, k17⟩ | exact ⟨m0, m1, m2, m3, m4, m5, m6, m7, m8, m9, m10, m11, m12, m13, m14, m15, m16, m17⟩ | exact ⟨n0, n1, n2, n3, n4, n5, n6, n7, n8, n9, n10, n11, n12, n13, n14, n15, n16, n17⟩ | exact ⟨o0, o1, o2, o3, o4, o5, o6, o7, o8, o9, o10, o11, o12, o13, o14, o15, o16, o17⟩ | exact ⟨u0, u1, u2, u3, u4, u5, u6, u7, u8, u9, u10, u11, u12, u13, u14, u15, u16, u17⟩ | exact ⟨v0, v1, v2, v3, v4, v5, v6, v7, v8, v9, v10, v11, v12, v13, v14, v15, v16, v17⟩) (first
    | (go_at_call 8; (with_reducible refine (H_cM.out _ ?c1).mono ?_); (case c1 => first | exact Keep.refl _ _ | exact (Keep.refl _ _).drew | exact (Keep.refl _ _).drewN _); rintro e y0 ⟨rfl, r⟩; have hy0 : Fresh w12 y0 := (by first | exact r | exact r.of_drew | exact r.of_drewN); have m0 := cell_fresh k0 hy0; have m1 := cell_fresh k1 hy0; have m2 := cell_fresh k2 hy0; have m3 := cell_fresh k3 hy0; have m4 := cell_fresh k4 hy0; have m5 := cell_fresh k5 hy0; have m6 := cell_fresh k6 hy0; have m7 := cell_fresh k7 hy0; have m8 := cell_fresh k8 hy0; have m9 := cell_fresh k9 hy0; have m10 := cell_fresh k10 hy0; have m11 := cell_fresh k11 hy0; have m12 := cell_fresh k12 hy0; have m13 := cell_fresh k13 hy0; have m14 := cell_fresh k14 hy0; have m15 := cell_fresh k15 hy0; have m16 := cell_fresh k16 hy0; have m17 := cell_fresh k17 hy0; have hg0 : Fresh w12 y0 := hy0; have H_g0 := Lib.hid hg0; clear r hy0 hg0)
    | (go_at_call 12; (with_reducible refine (H_c1.out _ H_g0.out).mono ?_);  rintro e y1 ⟨rfl, r⟩; have hy1 : Fresh y0 y1 := r; have n0 := cell_fresh m0 hy1; have n1 := cell_fresh m1 hy1; have n2 := cell_fresh m2 hy1; have n3 := cell_fresh m3 hy1; have n4 := cell_fresh m4 hy1; have n5 := cell_fresh m5 hy1; have n6 := cell_fresh m6 hy1; have n7 := cell_fresh m7 hy1; have n8 := cell_fresh m8 hy1; have n9 := cell_fresh m9 hy1; have n10 := cell_fresh m10 hy1; have n11 := cell_fresh m11 hy1; have n12 := cell_fresh m12 hy1; have n13 := cell_fresh m13 hy1; have n14 := cell_fresh m14 hy1; have n15 := cell_fresh m15 hy1; have n16 := cell_fresh m16 hy1; have n17 := cell_fresh m17 hy1; have hg1 : Fresh w12 y1 := fresh_trans H_g0.out hy1; have H_g1 := Lib.hid hg1; clear r hy1 hg1)
    | (go_at_call 12; (with_reducible refine (H_c2.out _ H_g1.out).mono ?_);  rintro e y2 ⟨rfl, r⟩; have hy2 : Fresh y1 y2 := r; have o0 := cell_fresh n0 hy2; have o1 := cell_fresh n1 hy2; have o2 := cell_fresh n2 hy2; have o3 := cell_fresh n3 hy2; have o4 := cell_fresh n4 hy2; have o5 := cell_fresh n5 hy2; have o6 := cell_fresh n6 hy2; have o7 := cell_fresh n7 hy2; have o8 := cell_fresh n8 hy2; have o9 := cell_fresh n9 hy2; have o10 := cell_fresh n10 hy2; have o11 := cell_fresh n11 hy2; have o12 := cell_fresh n12 hy2; have o13 := cell_fresh n13 hy2; have o14 := cell_fresh n14 hy2; have o15 := cell_fresh n15 hy2; have o16 := cell_fresh n16 hy2; have o17 := cell_fresh n17 hy2; have hg2 : Fresh w12 y2 := fresh_trans H_g1.out hy2; have H_g2 := Lib.hid hg2; clear r hy2 hg2)
    | (go_at_call 12; (with_reducible refine (H_c3.out _ H_g2.out).mono ?_);  rintro e y3 ⟨rfl, r⟩; have hy3 : Fresh y2 y3 := r; have u0 := cell_fresh o0 hy3; have u1 := cell_fresh o1 hy3; have u2 := cell_fresh o2 hy3; have u3 := cell_fresh o3 hy3; have u4 := cell_fresh o4 hy3; have u5 := cell_fresh o5 hy3; have u6 := cell_fresh o6 hy3; have u7 := cell_fresh o7 hy3; have u8 := cell_fresh o8 hy3; have u9 := cell_fresh o9 hy3; have u10 := cell_fresh o10 hy3; have u11 := cell_fresh o11 hy3; have u12 := cell_fresh o12 hy3; have u13 := cell_fresh o13 hy3; have u14 := cell_fresh o14 hy3; have u15 := cell_fresh o15 hy3; have u16 := cell_fresh o16 hy3; have u17 := cell_fresh o17 hy3; have hg3 : Fresh w12 y3 := fresh_trans H_g2.out hy3; have H_g3 := Lib.hid hg3; clear r hy3 hg3)
    | (go_at_call 13; (with_reducible refine (gvLives_any _).mono ?_);  rintro e y4 ⟨rfl, r⟩; have hy4 : Fresh y3 y4 := r; have v0 := cell_fresh u0 hy4; have v1 := cell_fresh u1 hy4; have v2 := cell_fresh u2 hy4; have v3 := cell_fresh u3 hy4; have v4 := cell_fresh u4 hy4; have v5 := cell_fresh u5 hy4; have v6 := cell_fresh u6 hy4; have v7 := cell_fresh u7 hy4; have v8 := cell_fresh u8 hy4; have v9 := cell_fresh u9 hy4; have v10 := cell_fresh u10 hy4; have v11 := cell_fresh u11 hy4; have v12 := cell_fresh u12 hy4; have v13 := cell_fresh u13 hy4; have v14 := cell_fresh u14 hy4; have v15 := cell_fresh u15 hy4; have v16 := cell_fresh u16 hy4; have v17 := cell_fresh u17 hy4; have hg4 : Fresh w12 y4 := fresh_trans H_g3.out hy4; have H_g4 := Lib.hid hg4; clear r hy4 hg4))
  go_wp2
  go_ret
  exact ⟨by rfl, fresh_trans H_fa12.out H_g4.out⟩

end Go.Proofs.YthemaneoighaoaaGreatDoor
