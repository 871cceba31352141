/- govalues' decimals compared by whole numbers of any length: cmpBint. -/
import Derived.Test.YtibaeafmgncjdaaGreatDoorK21
import Derived.Test.YtibaeafmgncjdaaGreatDoorK22
namespace Go.Proofs.YtibaeafmgncjdaaGreatDoor
open Go.RowKit

theorem cmpN_cases (a b : Nat) : (cmpN a b = 1 ∧ b < a) ∨ (cmpN a b = -1 ∧ a < b) ∨ (cmpN a b = 0 ∧ a = b) := by
  rcases Nat.lt_trichotomy a b with h | h | h
  · exact .inr (.inl ⟨cmpN_lt h, h⟩)
  · subst h; exact .inr (.inr ⟨cmpN_eq a, rfl⟩)
  · exact .inl ⟨cmpN_gt h, h⟩

theorem ten_wpow {c k : Nat} (hc : c ≤ 9999999999999999999) (hk : k ≤ 19) : c * 10 ^ k < wpow 39 := by
  apply wpow_big
  have h1 : 10 ^ k ≤ 10 ^ 19 := Nat.pow_le_pow_right (by omega) hk
  have h2 : c * 10 ^ k ≤ 9999999999999999999 * 10 ^ 19 := Nat.mul_le_mul hc h1
  omega

/-- the number in block g stays where the one in block h is set -/
theorem BSet.other {w w' : World} {g h m n n' : Nat} {v u : Value} (hs : BSet w h u n' w') (hg : BI w g v m) (hh : BI w h u n) (hne : g ≠ h) (hsep : ∀ k, v.ownBlock = some k → u.ownBlock ≠ some k) : BI w' g v m := by
  obtain ⟨_, _, hk, _⟩ := hs
  exact hg.keep hk (by rintro (e | e)
                       · exact hne e
                       · exact hg.ne_own hh e rfl) (fun k hk => by rintro (e | e)
                                                                   · exact hh.ne_own hg hk e.symm
                                                                   · exact hsep k hk e)

set_option maxRecDepth 20000 in
set_option maxHeartbeats 8000000 in
theorem cmpBint_eq (n1 n2 : Bool) (c1 s1 c2 s2 : Nat) (w : World) (hG : Glob w) (hP : Pow10s w) (hs1 : s1 ≤ 19) (hs2 : s2 ≤ 19) (hc1 : c1 ≤ 9999999999999999999) (hc2 : c2 ≤ 9999999999999999999) (hsg : gsign n1 c1 = gsign n2 c2) (hlt : s1 = s2) :
    Calls Tryz.prog 87 #[gd n1 s1 c1, gd n2 s2 c2] w (VRet w (.int .i64 (cmpA (gsign n1 c1) (c1 * 10 ^ (s2 - s1)) (c2 * 10 ^ (s1 - s2))))) := by
  have hsd := fun W => Sign_any n1 s1 c1 W
  have hse := fun W => Sign_any n2 s2 c2 W
  have hbd := gsign_bd n1 c1
  rw [← hsg] at hse
  generalize gsign n1 c1 = sg at *
  clear hsg
  have tw : IntKind.i64.wrap (-sg) = -sg := by rw [IntKind.wrap_i64]; omega
  have hGs := hG.size
  subst hlt
  rw [Nat.sub_self, Nat.pow_zero, Nat.mul_one, Nat.mul_one]
  have t1 : decide ((s1 : Int) < (s1 : Int)) = false := by simp
  obtain ⟨g, hg⟩ : ∃ g, g = w.heap.size := ⟨_, rfl⟩
  have bx := boxes2 w #[.bool n1, .int .i8 s1, .int .u64 c1] #[.bool n2, .int .i8 s1, .int .u64 c2] 62 62 g hg
  clear hbd
  have H_bx := Lib.hid bx; clear bx
  have H_hP := Lib.hid hP; clear hP
  have H_hG := Lib.hid hG; clear hG
  have H_hGs := Lib.hid hGs; clear hGs
  have H_hsd := Lib.hid hsd; clear hsd
  have H_hse := Lib.hid hse; clear hse
  go_enter_defers Tryz.func87, Tryz.ntmps87
  go_wp2_with (fail)
  generalize hw1 : (w.alloc _).alloc _ = w1
  rw [← hg]
  obtain ⟨b1, b2, hf⟩ := H_bx.out w1 hw1
  have k0 := row_cell b1 0
  have k1 := row_cell b1 1
  have k2 := row_cell b1 2
  simp at k0 k1 k2
  have k3 := row_cell b2 0
  have k4 := row_cell b2 1
  have k5 := row_cell b2 2
  simp at k3 k4 k5
  have hGs1 : NG ≤ w1.heap.size := Nat.le_trans H_hGs.out hf.size
  obtain ⟨p, hp⟩ : ∃ p, p = w1.heap.size := ⟨_, rfl⟩
  have hgb := getBint_any w1 hGs1
  rw [← hp] at hgb
  have H_b1 := Lib.hid b1; clear b1
  have H_b2 := Lib.hid b2; clear b2
  have H_hf := Lib.hid hf; clear hf
  have H_hw1 := Lib.hid hw1; clear hw1
  have H_hg := Lib.hid hg; clear hg
  have H_hGs1 := Lib.hid hGs1; clear hGs1
  have H_hp := Lib.hid hp; clear hp
  refine hgb.mono ?_
  clear hgb
  rintro e w2 ⟨rfl, p2, f2, z2⟩
  have m0 := cell_fresh k0 f2
  have m1 := cell_fresh k1 f2
  have m2 := cell_fresh k2 f2
  have m3 := cell_fresh k3 f2
  have m4 := cell_fresh k4 f2
  have m5 := cell_fresh k5 f2
  clear k0 k1 k2 k3 k4 k5
  obtain ⟨q, hq⟩ : ∃ q, q = w2.heap.size := ⟨_, rfl⟩
  have hgb := getBint_any w2 (Nat.le_trans H_hGs1.out f2.size)
  rw [← hq] at hgb
  have hpq : p ≠ q := by have := p2.lt; omega
  have hq1 : w1.heap.size ≤ q := by have := f2.size; omega
  have H_p2 := Lib.hid p2; clear p2
  have H_f2 := Lib.hid f2; clear f2
  have H_z2 := Lib.hid z2; clear z2
  have H_hq := Lib.hid hq; clear hq
  have H_hq1 := Lib.hid hq1; clear hq1
  go_wp2_with (fail)
  refine hgb.mono ?_
  clear hgb
  rintro e w3 ⟨rfl, q3, f3, z3⟩
  have k0 := cell_fresh m0 f3
  have k1 := cell_fresh m1 f3
  have k2 := cell_fresh m2 f3
  have k3 := cell_fresh m3 f3
  have k4 := cell_fresh m4 f3
  have k5 := cell_fresh m5 f3
  clear m0 m1 m2 m3 m4 m5
  have p3 := H_p2.out.fresh f3
  have g3 := fresh_trans H_f2.out f3
  have H_p3 := Lib.hid p3; clear p3
  have H_q3 := Lib.hid q3; clear q3
  have H_f3 := Lib.hid f3; clear f3
  have H_z3 := Lib.hid z3; clear z3
  have H_g3 := Lib.hid g3; clear g3
  go_wp2_with (fail)
  refine (setFint_any p _ 0 c1 _ (by omega) H_p3.out).mono ?_
  rintro e w4 ⟨rfl, hb⟩
  have q4 := hb.other H_q3.out H_p3.out (fun e => hpq e.symm) (fun k h => by simp [Value.ownBlock] at h)
  obtain ⟨vp, p4, op4, g4⟩ := hb.fresh_of H_g3.out (by have := H_hp.out; omega) (fun k h => by simp [Value.ownBlock] at h)
  have lp4 : ∀ k, vp.ownBlock = some k → k < w4.heap.size := fun k h => p4.own_lt h
  clear hb
  clear k0 k1 k2 k3 k4 k5
  have d1 := row_fresh H_b1.out g4
  have d2 := row_fresh H_b2.out g4
  have k0 := row_cell d1 0
  have k1 := row_cell d1 1
  have k2 := row_cell d1 2
  simp at k0 k1 k2
  have k3 := row_cell d2 0
  have k4 := row_cell d2 1
  have k5 := row_cell d2 2
  simp at k3 k4 k5
  have H_q4 := Lib.hid q4; clear q4
  have H_p4 := Lib.hid p4; clear p4
  have H_op4 := Lib.hid op4; clear op4
  have H_lp4 := Lib.hid lp4; clear lp4
  have H_g4 := Lib.hid g4; clear g4
  have H_d1 := Lib.hid d1; clear d1
  have H_d2 := Lib.hid d2; clear d2
  go_wp2_with (fail)
  refine (setFint_any q _ 0 c2 _ (by omega) H_q4.out).mono ?_
  rintro e w5 ⟨rfl, hb⟩
  have p5 := hb.other H_p4.out H_q4.out hpq (fun k _ h => by simp [Value.ownBlock] at h)
  have oq5 : ∃ vq, BI w5 q vq c2 ∧ (∀ k, vq.ownBlock = some k → w4.heap.size ≤ k) := by
    obtain ⟨vq, h1, _, h3⟩ := hb
    exact ⟨vq, h1, fun k hk => (h3 k hk).resolve_left (fun h => by simp [Value.ownBlock] at h)⟩
  obtain ⟨_, _, _, g5⟩ := hb.fresh_of H_g4.out H_hq1.out (fun k h => by simp [Value.ownBlock] at h)
  obtain ⟨vq, q5, oq5⟩ := oq5
  have sep : ∀ k, vp.ownBlock = some k → vq.ownBlock ≠ some k := fun k h e => by have := H_lp4.out k h; have := oq5 k e; omega
  have oq1 : ∀ k, vq.ownBlock = some k → w1.heap.size ≤ k := fun k h => Nat.le_trans H_g4.out.size (oq5 k h)
  clear hb oq5 k0 k1 k2 k3 k4 k5
  have d1 := row_fresh H_b1.out g5
  have d2 := row_fresh H_b2.out g5
  have k0 := row_cell d1 0
  have k1 := row_cell d1 1
  have k2 := row_cell d1 2
  simp at k0 k1 k2
  have k3 := row_cell d2 0
  have k4 := row_cell d2 1
  have k5 := row_cell d2 2
  simp at k3 k4 k5
  clear H_d1 H_d2
  have H_p5 := Lib.hid p5; clear p5
  have H_q5 := Lib.hid q5; clear q5
  have H_sep := Lib.hid sep; clear sep
  have H_oq1 := Lib.hid oq1; clear oq1
  have H_g5 := Lib.hid g5; clear g5
  have H_d1 := Lib.hid d1; clear d1
  have H_d2 := Lib.hid d2; clear d2
  go_wp2_with (fail)
  go_region_held3 (fun (w' : World) => w'.cell? ⟨g, 0, none⟩ = some (.bool n1) ∧ w'.cell? ⟨g, 1, none⟩ = some (.int .i8 s1) ∧ w'.cell? ⟨g, 2, none⟩ = some (.int .u64 c1) ∧ w'.cell? ⟨g + 1, 0, none⟩ = some (.bool n2) ∧ w'.cell? ⟨g + 1, 1, none⟩ = some (.int .i8 s1) ∧ w'.cell? ⟨g + 1, 2, none⟩ = some (.int .u64 c2)) (first | exact ⟨k0, k1, k2, k3, k4, k5⟩ | exact ⟨z2_0, z2_1, z2_2, z2_3, z2_4, z2_5⟩ | exact ⟨z4_0, z4_1, z4_2, z4_3, z4_4, z4_5⟩) (first
    | (go_at_call 93; (with_reducible refine (Scale_any n1 s1 c1 _ hs1).mono ?_); rintro e y1_ ⟨rfl, r⟩; have hy : Fresh w5 y1_ := (by first | exact r | exact r.of_drew | exact r.of_drewN); have z2_0 := cell_fresh k0 hy; have z2_1 := cell_fresh k1 hy; have z2_2 := cell_fresh k2 hy; have z2_3 := cell_fresh k3 hy; have z2_4 := cell_fresh k4 hy; have z2_5 := cell_fresh k5 hy; have fy1_ := hy; have H_fy1_ := Lib.hid fy1_; clear r hy fy1_)
    | (go_at_call 93; (with_reducible refine (Scale_any n2 s1 c2 _ hs2).mono ?_); rintro e y3_ ⟨rfl, r⟩; have hy : Fresh y1_ y3_ := r; have z4_0 := cell_fresh z2_0 hy; have z4_1 := cell_fresh z2_1 hy; have z4_2 := cell_fresh z2_2 hy; have z4_3 := cell_fresh z2_3 hy; have z4_4 := cell_fresh z2_4 hy; have z4_5 := cell_fresh z2_5 hy; have fy3_ := fresh_trans H_fy1_.out hy; have H_fy3_ := Lib.hid fy3_; clear r hy fy3_))
  have Fy3_ := H_fy3_.out
  have H_Fy3_ := Lib.hid Fy3_
  clear Fy3_
  go_wp2_with (fail)
  go_region_held3 (fun (w' : World) => w'.cell? ⟨g, 0, none⟩ = some (.bool n1) ∧ w'.cell? ⟨g, 1, none⟩ = some (.int .i8 s1) ∧ w'.cell? ⟨g, 2, none⟩ = some (.int .u64 c1) ∧ w'.cell? ⟨g + 1, 0, none⟩ = some (.bool n2) ∧ w'.cell? ⟨g + 1, 1, none⟩ = some (.int .i8 s1) ∧ w'.cell? ⟨g + 1, 2, none⟩ = some (.int .u64 c2)) (first | exact ⟨z4_0, z4_1, z4_2, z4_3, z4_4, z4_5⟩ | exact ⟨z6_0, z6_1, z6_2, z6_3, z6_4, z6_5⟩ | exact ⟨z8_0, z8_1, z8_2, z8_3, z8_4, z8_5⟩) (first
    | (go_at_call 93; (with_reducible refine (Scale_any n1 s1 c1 _ hs1).mono ?_); rintro e y5_ ⟨rfl, r⟩; have hy : Fresh y3_ y5_ := (by first | exact r | exact r.of_drew | exact r.of_drewN); have z6_0 := cell_fresh z4_0 hy; have z6_1 := cell_fresh z4_1 hy; have z6_2 := cell_fresh z4_2 hy; have z6_3 := cell_fresh z4_3 hy; have z6_4 := cell_fresh z4_4 hy; have z6_5 := cell_fresh z4_5 hy; have fy5_ := hy; have H_fy5_ := Lib.hid fy5_; clear r hy fy5_)
    | (go_at_call 93; (with_reducible refine (Scale_any n2 s1 c2 _ hs2).mono ?_); rintro e y7_ ⟨rfl, r⟩; have hy : Fresh y5_ y7_ := r; have z8_0 := cell_fresh z6_0 hy; have z8_1 := cell_fresh z6_1 hy; have z8_2 := cell_fresh z6_2 hy; have z8_3 := cell_fresh z6_3 hy; have z8_4 := cell_fresh z6_4 hy; have z8_5 := cell_fresh z6_5 hy; have fy7_ := fresh_trans H_fy5_.out hy; have H_fy7_ := Lib.hid fy7_; clear r hy fy7_))
  have Fy7_ := fresh_trans H_Fy3_.out H_fy7_.out
  have H_Fy7_ := Lib.hid Fy7_
  clear Fy7_
  have pz := H_p5.out.fresh H_Fy7_.out
  have qz := H_q5.out.fresh H_Fy7_.out
  have gz := fresh_trans H_g5.out H_Fy7_.out
  have H_pz := Lib.hid pz; clear pz
  have H_qz := Lib.hid qz; clear qz
  have H_gz := Lib.hid gz; clear gz
  go_wp2_with (fail)
  refine (bcmp_any p q _ _ c1 c2 _ (wpow_big (by omega)) (wpow_big (by omega)) hpq H_pz.out H_qz.out).mono ?_
  rintro e w7 ⟨rfl, nq, rfl⟩
  have gq := Keep.drewN H_gz.out nq
  generalize hwq : World.drewN _ nq = wq at *
  have d1 := row_fresh H_b1.out gq
  have d2 := row_fresh H_b2.out gq
  have v0 := row_cell d1 0
  have v1 := row_cell d1 1
  have v2 := row_cell d1 2
  have v3 := row_cell d2 0
  have v4 := row_cell d2 1
  have v5 := row_cell d2 2
  simp at v0 v1 v2 v3 v4 v5
  have H_gq := Lib.hid gq; clear gq
  have H_d1 := Lib.hid d1; clear d1
  have H_d2 := Lib.hid d2; clear d2
  have H_hwq := Lib.hid hwq; clear hwq
  rcases cmpN_cases c1 c2 with ⟨hr, hcc⟩ | ⟨hr, hcc⟩ | ⟨hr, hcc⟩
  · rw [hr]
    have hv : cmpA sg c1 c2 = sg := by unfold cmpA; rw [if_pos hcc]
    have H_hv := Lib.hid hv
    clear hv hr hcc
    go_wp2_with (fail)
    refine (H_hsd.out _).mono ?_
    rintro e wz ⟨rfl, r⟩
    have H_rz := Lib.hid r
    clear r
    go_wp2_with (fail)
    refine leaves_cons (f := 110) (args := #[.pointer (some ⟨q, 0, none⟩)]) (by simp) (by simp [go_sem]) ?_
    refine (putBint_idle _ _).mono ?_
    rintro e u' w'' ⟨rfl, rfl, rfl⟩
    refine leaves_cons (f := 110) (args := #[.pointer (some ⟨p, 0, none⟩)]) (by simp [settle]) (by simp [go_sem]) ?_
    refine (putBint_idle _ _).mono ?_
    rintro e u' w'' ⟨rfl, rfl, rfl⟩
    refine ⟨.int .i64 sg, by simp [results, Tryz.results87], by rw [H_hv.out], fresh_trans (fresh_trans H_hf.out H_gq.out) H_rz.out⟩
  · rw [hr]
    have hv : cmpA sg c1 c2 = -sg := by unfold cmpA; rw [if_neg (by omega), if_pos hcc]
    have H_hv := Lib.hid hv
    clear hv hr hcc
    go_wp2_with (fail)
    refine (H_hse.out _).mono ?_
    rintro e wz ⟨rfl, r⟩
    have H_rz := Lib.hid r
    clear r
    go_wp2_with (fail)
    refine leaves_cons (f := 110) (args := #[.pointer (some ⟨q, 0, none⟩)]) (by simp) (by simp [go_sem]) ?_
    refine (putBint_idle _ _).mono ?_
    rintro e u' w'' ⟨rfl, rfl, rfl⟩
    refine leaves_cons (f := 110) (args := #[.pointer (some ⟨p, 0, none⟩)]) (by simp [settle]) (by simp [go_sem]) ?_
    refine (putBint_idle _ _).mono ?_
    rintro e u' w'' ⟨rfl, rfl, rfl⟩
    refine ⟨.int .i64 (-sg), by simp [results, Tryz.results87], by rw [H_hv.out], fresh_trans (fresh_trans H_hf.out H_gq.out) H_rz.out⟩
  · rw [hr]
    have hv : cmpA sg c1 c2 = 0 := by unfold cmpA; rw [if_neg (by omega), if_neg (by omega)]
    have H_hv := Lib.hid hv
    clear hv hr hcc
    go_wp2_with (fail)
    refine leaves_cons (f := 110) (args := #[.pointer (some ⟨q, 0, none⟩)]) (by simp) (by simp [go_sem]) ?_
    refine (putBint_idle _ _).mono ?_
    rintro e u' w'' ⟨rfl, rfl, rfl⟩
    refine leaves_cons (f := 110) (args := #[.pointer (some ⟨p, 0, none⟩)]) (by simp [settle]) (by simp [go_sem]) ?_
    refine (putBint_idle _ _).mono ?_
    rintro e u' w'' ⟨rfl, rfl, rfl⟩
    refine ⟨.int .i64 0, by simp [results, Tryz.results87], by rw [H_hv.out], fresh_trans H_hf.out H_gq.out⟩

set_option maxRecDepth 20000 in
set_option maxHeartbeats 8000000 in
theorem cmpBint_gt (n1 n2 : Bool) (c1 s1 c2 s2 : Nat) (w : World) (hG : Glob w) (hP : Pow10s w) (hs1 : s1 ≤ 19) (hs2 : s2 ≤ 19) (hc1 : c1 ≤ 9999999999999999999) (hc2 : c2 ≤ 9999999999999999999) (hsg : gsign n1 c1 = gsign n2 c2) (hlt : s2 < s1) :
    Calls Tryz.prog 87 #[gd n1 s1 c1, gd n2 s2 c2] w (VRet w (.int .i64 (cmpA (gsign n1 c1) (c1 * 10 ^ (s2 - s1)) (c2 * 10 ^ (s1 - s2))))) := by
  have hsd := fun W => Sign_any n1 s1 c1 W
  have hse := fun W => Sign_any n2 s2 c2 W
  have hbd := gsign_bd n1 c1
  rw [← hsg] at hse
  generalize gsign n1 c1 = sg at *
  clear hsg
  have tw : IntKind.i64.wrap (-sg) = -sg := by rw [IntKind.wrap_i64]; omega
  have hGs := hG.size
  rw [show s2 - s1 = 0 by omega, Nat.pow_zero, Nat.mul_one]
  have t1 : decide ((s2 : Int) < (s1 : Int)) = true := by simp; omega
  obtain ⟨k, hk⟩ : ∃ k, k = s1 - s2 := ⟨_, rfl⟩
  rw [← hk]
  have hk19 : k ≤ 19 := by omega
  have hkI : (s1 : Int) - (s2 : Int) = (k : Int) := by omega
  have hkw : IntKind.i64.wrap (k : Int) = (k : Int) := wrap_nat k (by omega)
  clear hk
  obtain ⟨g, hg⟩ : ∃ g, g = w.heap.size := ⟨_, rfl⟩
  have bx := boxes2 w #[.bool n1, .int .i8 s1, .int .u64 c1] #[.bool n2, .int .i8 s2, .int .u64 c2] 62 62 g hg
  clear hbd
  have H_bx := Lib.hid bx; clear bx
  have H_hP := Lib.hid hP; clear hP
  have H_hG := Lib.hid hG; clear hG
  have H_hGs := Lib.hid hGs; clear hGs
  have H_hsd := Lib.hid hsd; clear hsd
  have H_hse := Lib.hid hse; clear hse
  go_enter_defers Tryz.func87, Tryz.ntmps87
  go_wp2_with (fail)
  generalize hw1 : (w.alloc _).alloc _ = w1
  rw [← hg]
  obtain ⟨b1, b2, hf⟩ := H_bx.out w1 hw1
  have k0 := row_cell b1 0
  have k1 := row_cell b1 1
  have k2 := row_cell b1 2
  simp at k0 k1 k2
  have k3 := row_cell b2 0
  have k4 := row_cell b2 1
  have k5 := row_cell b2 2
  simp at k3 k4 k5
  have hGs1 : NG ≤ w1.heap.size := Nat.le_trans H_hGs.out hf.size
  obtain ⟨p, hp⟩ : ∃ p, p = w1.heap.size := ⟨_, rfl⟩
  have hgb := getBint_any w1 hGs1
  rw [← hp] at hgb
  have H_b1 := Lib.hid b1; clear b1
  have H_b2 := Lib.hid b2; clear b2
  have H_hf := Lib.hid hf; clear hf
  have H_hw1 := Lib.hid hw1; clear hw1
  have H_hg := Lib.hid hg; clear hg
  have H_hGs1 := Lib.hid hGs1; clear hGs1
  have H_hp := Lib.hid hp; clear hp
  refine hgb.mono ?_
  clear hgb
  rintro e w2 ⟨rfl, p2, f2, z2⟩
  have m0 := cell_fresh k0 f2
  have m1 := cell_fresh k1 f2
  have m2 := cell_fresh k2 f2
  have m3 := cell_fresh k3 f2
  have m4 := cell_fresh k4 f2
  have m5 := cell_fresh k5 f2
  clear k0 k1 k2 k3 k4 k5
  obtain ⟨q, hq⟩ : ∃ q, q = w2.heap.size := ⟨_, rfl⟩
  have hgb := getBint_any w2 (Nat.le_trans H_hGs1.out f2.size)
  rw [← hq] at hgb
  have hpq : p ≠ q := by have := p2.lt; omega
  have hq1 : w1.heap.size ≤ q := by have := f2.size; omega
  have H_p2 := Lib.hid p2; clear p2
  have H_f2 := Lib.hid f2; clear f2
  have H_z2 := Lib.hid z2; clear z2
  have H_hq := Lib.hid hq; clear hq
  have H_hq1 := Lib.hid hq1; clear hq1
  go_wp2_with (fail)
  refine hgb.mono ?_
  clear hgb
  rintro e w3 ⟨rfl, q3, f3, z3⟩
  have k0 := cell_fresh m0 f3
  have k1 := cell_fresh m1 f3
  have k2 := cell_fresh m2 f3
  have k3 := cell_fresh m3 f3
  have k4 := cell_fresh m4 f3
  have k5 := cell_fresh m5 f3
  clear m0 m1 m2 m3 m4 m5
  have p3 := H_p2.out.fresh f3
  have g3 := fresh_trans H_f2.out f3
  have H_p3 := Lib.hid p3; clear p3
  have H_q3 := Lib.hid q3; clear q3
  have H_f3 := Lib.hid f3; clear f3
  have H_z3 := Lib.hid z3; clear z3
  have H_g3 := Lib.hid g3; clear g3
  go_wp2_with (fail)
  refine (setFint_any p _ 0 c1 _ (by omega) H_p3.out).mono ?_
  rintro e w4 ⟨rfl, hb⟩
  have q4 := hb.other H_q3.out H_p3.out (fun e => hpq e.symm) (fun k h => by simp [Value.ownBlock] at h)
  obtain ⟨vp, p4, op4, g4⟩ := hb.fresh_of H_g3.out (by have := H_hp.out; omega) (fun k h => by simp [Value.ownBlock] at h)
  have lp4 : ∀ k, vp.ownBlock = some k → k < w4.heap.size := fun k h => p4.own_lt h
  clear hb
  clear k0 k1 k2 k3 k4 k5
  have d1 := row_fresh H_b1.out g4
  have d2 := row_fresh H_b2.out g4
  have k0 := row_cell d1 0
  have k1 := row_cell d1 1
  have k2 := row_cell d1 2
  simp at k0 k1 k2
  have k3 := row_cell d2 0
  have k4 := row_cell d2 1
  have k5 := row_cell d2 2
  simp at k3 k4 k5
  have H_q4 := Lib.hid q4; clear q4
  have H_p4 := Lib.hid p4; clear p4
  have H_op4 := Lib.hid op4; clear op4
  have H_lp4 := Lib.hid lp4; clear lp4
  have H_g4 := Lib.hid g4; clear g4
  have H_d1 := Lib.hid d1; clear d1
  have H_d2 := Lib.hid d2; clear d2
  go_wp2_with (fail)
  refine (setFint_any q _ 0 c2 _ (by omega) H_q4.out).mono ?_
  rintro e w5 ⟨rfl, hb⟩
  have p5 := hb.other H_p4.out H_q4.out hpq (fun k _ h => by simp [Value.ownBlock] at h)
  have oq5 : ∃ vq, BI w5 q vq c2 ∧ (∀ k, vq.ownBlock = some k → w4.heap.size ≤ k) := by
    obtain ⟨vq, h1, _, h3⟩ := hb
    exact ⟨vq, h1, fun k hk => (h3 k hk).resolve_left (fun h => by simp [Value.ownBlock] at h)⟩
  obtain ⟨_, _, _, g5⟩ := hb.fresh_of H_g4.out H_hq1.out (fun k h => by simp [Value.ownBlock] at h)
  obtain ⟨vq, q5, oq5⟩ := oq5
  have sep : ∀ k, vp.ownBlock = some k → vq.ownBlock ≠ some k := fun k h e => by have := H_lp4.out k h; have := oq5 k e; omega
  have oq1 : ∀ k, vq.ownBlock = some k → w1.heap.size ≤ k := fun k h => Nat.le_trans H_g4.out.size (oq5 k h)
  clear hb oq5 k0 k1 k2 k3 k4 k5
  have d1 := row_fresh H_b1.out g5
  have d2 := row_fresh H_b2.out g5
  have k0 := row_cell d1 0
  have k1 := row_cell d1 1
  have k2 := row_cell d1 2
  simp at k0 k1 k2
  have k3 := row_cell d2 0
  have k4 := row_cell d2 1
  have k5 := row_cell d2 2
  simp at k3 k4 k5
  clear H_d1 H_d2
  have H_p5 := Lib.hid p5; clear p5
  have H_q5 := Lib.hid q5; clear q5
  have H_sep := Lib.hid sep; clear sep
  have H_oq1 := Lib.hid oq1; clear oq1
  have H_g5 := Lib.hid g5; clear g5
  have H_d1 := Lib.hid d1; clear d1
  have H_d2 := Lib.hid d2; clear d2
  go_wp2_with (fail)
  go_region_held3 (fun (w' : World) => w'.cell? ⟨g, 0, none⟩ = some (.bool n1) ∧ w'.cell? ⟨g, 1, none⟩ = some (.int .i8 s1) ∧ w'.cell? ⟨g, 2, none⟩ = some (.int .u64 c1) ∧ w'.cell? ⟨g + 1, 0, none⟩ = some (.bool n2) ∧ w'.cell? ⟨g + 1, 1, none⟩ = some (.int .i8 s2) ∧ w'.cell? ⟨g + 1, 2, none⟩ = some (.int .u64 c2)) (first | exact ⟨k0, k1, k2, k3, k4, k5⟩ | exact ⟨z10_0, z10_1, z10_2, z10_3, z10_4, z10_5⟩ | exact ⟨z12_0, z12_1, z12_2, z12_3, z12_4, z12_5⟩) (first
    | (go_at_call 93; (with_reducible refine (Scale_any n1 s1 c1 _ hs1).mono ?_); rintro e y9_ ⟨rfl, r⟩; have hy : Fresh w5 y9_ := (by first | exact r | exact r.of_drew | exact r.of_drewN); have z10_0 := cell_fresh k0 hy; have z10_1 := cell_fresh k1 hy; have z10_2 := cell_fresh k2 hy; have z10_3 := cell_fresh k3 hy; have z10_4 := cell_fresh k4 hy; have z10_5 := cell_fresh k5 hy; have fy9_ := hy; have H_fy9_ := Lib.hid fy9_; clear r hy fy9_)
    | (go_at_call 93; (with_reducible refine (Scale_any n2 s2 c2 _ hs2).mono ?_); rintro e y11_ ⟨rfl, r⟩; have hy : Fresh y9_ y11_ := r; have z12_0 := cell_fresh z10_0 hy; have z12_1 := cell_fresh z10_1 hy; have z12_2 := cell_fresh z10_2 hy; have z12_3 := cell_fresh z10_3 hy; have z12_4 := cell_fresh z10_4 hy; have z12_5 := cell_fresh z10_5 hy; have fy11_ := fresh_trans H_fy9_.out hy; have H_fy11_ := Lib.hid fy11_; clear r hy fy11_))
  have Fy11_ := H_fy11_.out
  have H_Fy11_ := Lib.hid Fy11_
  clear Fy11_
  go_wp2_with (fail)
  go_region_held3 (fun (w' : World) => w'.cell? ⟨g, 0, none⟩ = some (.bool n1) ∧ w'.cell? ⟨g, 1, none⟩ = some (.int .i8 s1) ∧ w'.cell? ⟨g, 2, none⟩ = some (.int .u64 c1) ∧ w'.cell? ⟨g + 1, 0, none⟩ = some (.bool n2) ∧ w'.cell? ⟨g + 1, 1, none⟩ = some (.int .i8 s2) ∧ w'.cell? ⟨g + 1, 2, none⟩ = some (.int .u64 c2)) (first | exact ⟨u0, u1, u2, u3, u4, u5⟩ | exact ⟨z12_0, z12_1, z12_2, z12_3, z12_4, z12_5⟩ | exact ⟨z14_0, z14_1, z14_2, z14_3, z14_4, z14_5⟩ | exact ⟨z16_0, z16_1, z16_2, z16_3, z16_4, z16_5⟩) (first
    | (go_at_call 93; (with_reducible refine (Scale_any n1 s1 c1 _ hs1).mono ?_); rintro e y13_ ⟨rfl, r⟩; have hy : Fresh y11_ y13_ := (by first | exact r | exact r.of_drew | exact r.of_drewN); have z14_0 := cell_fresh z12_0 hy; have z14_1 := cell_fresh z12_1 hy; have z14_2 := cell_fresh z12_2 hy; have z14_3 := cell_fresh z12_3 hy; have z14_4 := cell_fresh z12_4 hy; have z14_5 := cell_fresh z12_5 hy; have fy13_ := hy; have H_fy13_ := Lib.hid fy13_; clear r hy fy13_)
    | (go_at_call 93; (with_reducible refine (Scale_any n2 s2 c2 _ hs2).mono ?_); rintro e y15_ ⟨rfl, r⟩; have hy : Fresh y13_ y15_ := r; have z16_0 := cell_fresh z14_0 hy; have z16_1 := cell_fresh z14_1 hy; have z16_2 := cell_fresh z14_2 hy; have z16_3 := cell_fresh z14_3 hy; have z16_4 := cell_fresh z14_4 hy; have z16_5 := cell_fresh z14_5 hy; have fy15_ := fresh_trans H_fy13_.out hy; have H_fy15_ := Lib.hid fy15_; clear r hy fy15_)
    | (go_at_call 112; (with_reducible refine (lsh_self q vq c2 k _ ((H_hG.out.fresh H_hf.out).fresh (fresh_trans H_g5.out (fresh_trans H_Fy11_.out H_fy15_.out))) ((H_hP.out.fresh H_hf.out).fresh (fresh_trans H_g5.out (fresh_trans H_Fy11_.out H_fy15_.out))) (wpow_big (by omega)) hk19 (H_q5.out.fresh (fresh_trans H_Fy11_.out H_fy15_.out))).mono ?_); rintro e w6 ⟨rfl, hb⟩; have oz := hb.other (H_p5.out.fresh (fresh_trans H_Fy11_.out H_fy15_.out)) (H_q5.out.fresh (fresh_trans H_Fy11_.out H_fy15_.out)) hpq (fun k h => H_sep.out k h); obtain ⟨vz, xz, ovz, gz⟩ := hb.fresh_of (fresh_trans H_g5.out (fresh_trans H_Fy11_.out H_fy15_.out)) (H_hq1.out) H_oq1.out; have e1 := row_fresh H_b1.out gz; have e2 := row_fresh H_b2.out gz; have u0 := row_cell e1 0; have u1 := row_cell e1 1; have u2 := row_cell e1 2; have u3 := row_cell e2 0; have u4 := row_cell e2 1; have u5 := row_cell e2 2; simp at u0 u1 u2 u3 u4 u5; have H_oz := Lib.hid oz; have H_xz := Lib.hid xz; have H_gz := Lib.hid gz; clear oz xz gz ovz e1 e2 hb))
  go_wp2_with (fail)
  have pz := H_oz.out
  have qz := H_xz.out
  have H_pz := Lib.hid pz; clear pz
  have H_qz := Lib.hid qz; clear qz
  refine (bcmp_any p q _ _ c1 (c2 * 10 ^ k) _ (wpow_big (by omega)) (ten_wpow hc2 hk19) hpq H_pz.out H_qz.out).mono ?_
  rintro e w7 ⟨rfl, nq, rfl⟩
  have gq := Keep.drewN H_gz.out nq
  generalize hwq : World.drewN _ nq = wq at *
  have d1 := row_fresh H_b1.out gq
  have d2 := row_fresh H_b2.out gq
  have v0 := row_cell d1 0
  have v1 := row_cell d1 1
  have v2 := row_cell d1 2
  have v3 := row_cell d2 0
  have v4 := row_cell d2 1
  have v5 := row_cell d2 2
  simp at v0 v1 v2 v3 v4 v5
  have H_gq := Lib.hid gq; clear gq
  have H_d1 := Lib.hid d1; clear d1
  have H_d2 := Lib.hid d2; clear d2
  have H_hwq := Lib.hid hwq; clear hwq
  rcases cmpN_cases c1 (c2 * 10 ^ k) with ⟨hr, hcc⟩ | ⟨hr, hcc⟩ | ⟨hr, hcc⟩
  · rw [hr]
    have hv : cmpA sg c1 (c2 * 10 ^ k) = sg := by unfold cmpA; rw [if_pos hcc]
    have H_hv := Lib.hid hv
    clear hv hr hcc
    go_wp2_with (fail)
    refine (H_hsd.out _).mono ?_
    rintro e wz ⟨rfl, r⟩
    have H_rz := Lib.hid r
    clear r
    go_wp2_with (fail)
    refine leaves_cons (f := 110) (args := #[.pointer (some ⟨q, 0, none⟩)]) (by simp) (by simp [go_sem]) ?_
    refine (putBint_idle _ _).mono ?_
    rintro e u' w'' ⟨rfl, rfl, rfl⟩
    refine leaves_cons (f := 110) (args := #[.pointer (some ⟨p, 0, none⟩)]) (by simp [settle]) (by simp [go_sem]) ?_
    refine (putBint_idle _ _).mono ?_
    rintro e u' w'' ⟨rfl, rfl, rfl⟩
    refine ⟨.int .i64 sg, by simp [results, Tryz.results87], by rw [H_hv.out], fresh_trans (fresh_trans H_hf.out H_gq.out) H_rz.out⟩
  · rw [hr]
    have hv : cmpA sg c1 (c2 * 10 ^ k) = -sg := by unfold cmpA; rw [if_neg (by omega), if_pos hcc]
    have H_hv := Lib.hid hv
    clear hv hr hcc
    go_wp2_with (fail)
    refine (H_hse.out _).mono ?_
    rintro e wz ⟨rfl, r⟩
    have H_rz := Lib.hid r
    clear r
    go_wp2_with (fail)
    refine leaves_cons (f := 110) (args := #[.pointer (some ⟨q, 0, none⟩)]) (by simp) (by simp [go_sem]) ?_
    refine (putBint_idle _ _).mono ?_
    rintro e u' w'' ⟨rfl, rfl, rfl⟩
    refine leaves_cons (f := 110) (args := #[.pointer (some ⟨p, 0, none⟩)]) (by simp [settle]) (by simp [go_sem]) ?_
    refine (putBint_idle _ _).mono ?_
    rintro e u' w'' ⟨rfl, rfl, rfl⟩
    refine ⟨.int .i64 (-sg), by simp [results, Tryz.results87], by rw [H_hv.out], fresh_trans (fresh_trans H_hf.out H_gq.out) H_rz.out⟩
  · rw [hr]
    have hv : cmpA sg c1 (c2 * 10 ^ k) = 0 := by unfold cmpA; rw [if_neg (by omega), if_neg (by omega)]
    have H_hv := Lib.hid hv
    clear hv hr hcc
    go_wp2_with (fail)
    refine leaves_cons (f := 110) (args := #[.pointer (some ⟨q, 0, none⟩)]) (by simp) (by simp [go_sem]) ?_
    refine (putBint_idle _ _).mono ?_
    rintro e u' w'' ⟨rfl, rfl, rfl⟩
    refine leaves_cons (f := 110) (args := #[.pointer (some ⟨p, 0, none⟩)]) (by simp [settle]) (by simp [go_sem]) ?_
    refine (putBint_idle _ _).mono ?_
    rintro e u' w'' ⟨rfl, rfl, rfl⟩
    refine ⟨.int .i64 0, by simp [results, Tryz.results87], by rw [H_hv.out], fresh_trans H_hf.out H_gq.out⟩

set_option maxRecDepth 20000 in
set_option maxHeartbeats 8000000 in
theorem cmpBint_lt (n1 n2 : Bool) (c1 s1 c2 s2 : Nat) (w : World) (hG : Glob w) (hP : Pow10s w) (hs1 : s1 ≤ 19) (hs2 : s2 ≤ 19) (hc1 : c1 ≤ 9999999999999999999) (hc2 : c2 ≤ 9999999999999999999) (hsg : gsign n1 c1 = gsign n2 c2) (hlt : s1 < s2) :
    Calls Tryz.prog 87 #[gd n1 s1 c1, gd n2 s2 c2] w (VRet w (.int .i64 (cmpA (gsign n1 c1) (c1 * 10 ^ (s2 - s1)) (c2 * 10 ^ (s1 - s2))))) := by
  have hsd := fun W => Sign_any n1 s1 c1 W
  have hse := fun W => Sign_any n2 s2 c2 W
  have hbd := gsign_bd n1 c1
  rw [← hsg] at hse
  generalize gsign n1 c1 = sg at *
  clear hsg
  have tw : IntKind.i64.wrap (-sg) = -sg := by rw [IntKind.wrap_i64]; omega
  have hGs := hG.size
  rw [show s1 - s2 = 0 by omega, Nat.pow_zero, Nat.mul_one]
  have hnlt : ¬ s2 < s1 := by omega
  have t0 : decide ((s2 : Int) < (s1 : Int)) = false := by simp; omega
  have t1 : decide ((s1 : Int) < (s2 : Int)) = true := by simp; omega
  obtain ⟨k, hk⟩ : ∃ k, k = s2 - s1 := ⟨_, rfl⟩
  rw [← hk]
  have hk19 : k ≤ 19 := by omega
  have hkI : (s2 : Int) - (s1 : Int) = (k : Int) := by omega
  have hkw : IntKind.i64.wrap (k : Int) = (k : Int) := wrap_nat k (by omega)
  clear hk
  obtain ⟨g, hg⟩ : ∃ g, g = w.heap.size := ⟨_, rfl⟩
  have bx := boxes2 w #[.bool n1, .int .i8 s1, .int .u64 c1] #[.bool n2, .int .i8 s2, .int .u64 c2] 62 62 g hg
  clear hbd
  have H_bx := Lib.hid bx; clear bx
  have H_hP := Lib.hid hP; clear hP
  have H_hG := Lib.hid hG; clear hG
  have H_hGs := Lib.hid hGs; clear hGs
  have H_hsd := Lib.hid hsd; clear hsd
  have H_hse := Lib.hid hse; clear hse
  go_enter_defers Tryz.func87, Tryz.ntmps87
  go_wp2_with (fail)
  generalize hw1 : (w.alloc _).alloc _ = w1
  rw [← hg]
  obtain ⟨b1, b2, hf⟩ := H_bx.out w1 hw1
  have k0 := row_cell b1 0
  have k1 := row_cell b1 1
  have k2 := row_cell b1 2
  simp at k0 k1 k2
  have k3 := row_cell b2 0
  have k4 := row_cell b2 1
  have k5 := row_cell b2 2
  simp at k3 k4 k5
  have hGs1 : NG ≤ w1.heap.size := Nat.le_trans H_hGs.out hf.size
  obtain ⟨p, hp⟩ : ∃ p, p = w1.heap.size := ⟨_, rfl⟩
  have hgb := getBint_any w1 hGs1
  rw [← hp] at hgb
  have H_b1 := Lib.hid b1; clear b1
  have H_b2 := Lib.hid b2; clear b2
  have H_hf := Lib.hid hf; clear hf
  have H_hw1 := Lib.hid hw1; clear hw1
  have H_hg := Lib.hid hg; clear hg
  have H_hGs1 := Lib.hid hGs1; clear hGs1
  have H_hp := Lib.hid hp; clear hp
  refine hgb.mono ?_
  clear hgb
  rintro e w2 ⟨rfl, p2, f2, z2⟩
  have m0 := cell_fresh k0 f2
  have m1 := cell_fresh k1 f2
  have m2 := cell_fresh k2 f2
  have m3 := cell_fresh k3 f2
  have m4 := cell_fresh k4 f2
  have m5 := cell_fresh k5 f2
  clear k0 k1 k2 k3 k4 k5
  obtain ⟨q, hq⟩ : ∃ q, q = w2.heap.size := ⟨_, rfl⟩
  have hgb := getBint_any w2 (Nat.le_trans H_hGs1.out f2.size)
  rw [← hq] at hgb
  have hpq : p ≠ q := by have := p2.lt; omega
  have hq1 : w1.heap.size ≤ q := by have := f2.size; omega
  have H_p2 := Lib.hid p2; clear p2
  have H_f2 := Lib.hid f2; clear f2
  have H_z2 := Lib.hid z2; clear z2
  have H_hq := Lib.hid hq; clear hq
  have H_hq1 := Lib.hid hq1; clear hq1
  go_wp2_with (fail)
  refine hgb.mono ?_
  clear hgb
  rintro e w3 ⟨rfl, q3, f3, z3⟩
  have k0 := cell_fresh m0 f3
  have k1 := cell_fresh m1 f3
  have k2 := cell_fresh m2 f3
  have k3 := cell_fresh m3 f3
  have k4 := cell_fresh m4 f3
  have k5 := cell_fresh m5 f3
  clear m0 m1 m2 m3 m4 m5
  have p3 := H_p2.out.fresh f3
  have g3 := fresh_trans H_f2.out f3
  have H_p3 := Lib.hid p3; clear p3
  have H_q3 := Lib.hid q3; clear q3
  have H_f3 := Lib.hid f3; clear f3
  have H_z3 := Lib.hid z3; clear z3
  have H_g3 := Lib.hid g3; clear g3
  go_wp2_with (fail)
  refine (setFint_any p _ 0 c1 _ (by omega) H_p3.out).mono ?_
  rintro e w4 ⟨rfl, hb⟩
  have q4 := hb.other H_q3.out H_p3.out (fun e => hpq e.symm) (fun k h => by simp [Value.ownBlock] at h)
  obtain ⟨vp, p4, op4, g4⟩ := hb.fresh_of H_g3.out (by have := H_hp.out; omega) (fun k h => by simp [Value.ownBlock] at h)
  have lp4 : ∀ k, vp.ownBlock = some k → k < w4.heap.size := fun k h => p4.own_lt h
  clear hb
  clear k0 k1 k2 k3 k4 k5
  have d1 := row_fresh H_b1.out g4
  have d2 := row_fresh H_b2.out g4
  have k0 := row_cell d1 0
  have k1 := row_cell d1 1
  have k2 := row_cell d1 2
  simp at k0 k1 k2
  have k3 := row_cell d2 0
  have k4 := row_cell d2 1
  have k5 := row_cell d2 2
  simp at k3 k4 k5
  have H_q4 := Lib.hid q4; clear q4
  have H_p4 := Lib.hid p4; clear p4
  have H_op4 := Lib.hid op4; clear op4
  have H_lp4 := Lib.hid lp4; clear lp4
  have H_g4 := Lib.hid g4; clear g4
  have H_d1 := Lib.hid d1; clear d1
  have H_d2 := Lib.hid d2; clear d2
  go_wp2_with (fail)
  refine (setFint_any q _ 0 c2 _ (by omega) H_q4.out).mono ?_
  rintro e w5 ⟨rfl, hb⟩
  have p5 := hb.other H_p4.out H_q4.out hpq (fun k _ h => by simp [Value.ownBlock] at h)
  have oq5 : ∃ vq, BI w5 q vq c2 ∧ (∀ k, vq.ownBlock = some k → w4.heap.size ≤ k) := by
    obtain ⟨vq, h1, _, h3⟩ := hb
    exact ⟨vq, h1, fun k hk => (h3 k hk).resolve_left (fun h => by simp [Value.ownBlock] at h)⟩
  obtain ⟨_, _, _, g5⟩ := hb.fresh_of H_g4.out H_hq1.out (fun k h => by simp [Value.ownBlock] at h)
  obtain ⟨vq, q5, oq5⟩ := oq5
  have sep : ∀ k, vp.ownBlock = some k → vq.ownBlock ≠ some k := fun k h e => by have := H_lp4.out k h; have := oq5 k e; omega
  have oq1 : ∀ k, vq.ownBlock = some k → w1.heap.size ≤ k := fun k h => Nat.le_trans H_g4.out.size (oq5 k h)
  clear hb oq5 k0 k1 k2 k3 k4 k5
  have d1 := row_fresh H_b1.out g5
  have d2 := row_fresh H_b2.out g5
  have k0 := row_cell d1 0
  have k1 := row_cell d1 1
  have k2 := row_cell d1 2
  simp at k0 k1 k2
  have k3 := row_cell d2 0
  have k4 := row_cell d2 1
  have k5 := row_cell d2 2
  simp at k3 k4 k5
  clear H_d1 H_d2
  have H_p5 := Lib.hid p5; clear p5
  have H_q5 := Lib.hid q5; clear q5
  have H_sep := Lib.hid sep; clear sep
  have H_oq1 := Lib.hid oq1; clear oq1
  have H_g5 := Lib.hid g5; clear g5
  have H_d1 := Lib.hid d1; clear d1
  have H_d2 := Lib.hid d2; clear d2
  go_wp2_with (fail)
  go_region_held3 (fun (w' : World) => w'.cell? ⟨g, 0, none⟩ = some (.bool n1) ∧ w'.cell? ⟨g, 1, none⟩ = some (.int .i8 s1) ∧ w'.cell? ⟨g, 2, none⟩ = some (.int .u64 c1) ∧ w'.cell? ⟨g + 1, 0, none⟩ = some (.bool n2) ∧ w'.cell? ⟨g + 1, 1, none⟩ = some (.int .i8 s2) ∧ w'.cell? ⟨g + 1, 2, none⟩ = some (.int .u64 c2)) (first | exact ⟨k0, k1, k2, k3, k4, k5⟩ | exact ⟨z18_0, z18_1, z18_2, z18_3, z18_4, z18_5⟩ | exact ⟨z20_0, z20_1, z20_2, z20_3, z20_4, z20_5⟩) (first
    | (go_at_call 93; (with_reducible refine (Scale_any n1 s1 c1 _ hs1).mono ?_); rintro e y17_ ⟨rfl, r⟩; have hy : Fresh w5 y17_ := (by first | exact r | exact r.of_drew | exact r.of_drewN); have z18_0 := cell_fresh k0 hy; have z18_1 := cell_fresh k1 hy; have z18_2 := cell_fresh k2 hy; have z18_3 := cell_fresh k3 hy; have z18_4 := cell_fresh k4 hy; have z18_5 := cell_fresh k5 hy; have fy17_ := hy; have H_fy17_ := Lib.hid fy17_; clear r hy fy17_)
    | (go_at_call 93; (with_reducible refine (Scale_any n2 s2 c2 _ hs2).mono ?_); rintro e y19_ ⟨rfl, r⟩; have hy : Fresh y17_ y19_ := r; have z20_0 := cell_fresh z18_0 hy; have z20_1 := cell_fresh z18_1 hy; have z20_2 := cell_fresh z18_2 hy; have z20_3 := cell_fresh z18_3 hy; have z20_4 := cell_fresh z18_4 hy; have z20_5 := cell_fresh z18_5 hy; have fy19_ := fresh_trans H_fy17_.out hy; have H_fy19_ := Lib.hid fy19_; clear r hy fy19_))
  have Fy19_ := H_fy19_.out
  have H_Fy19_ := Lib.hid Fy19_
  clear Fy19_
  go_wp2_with (fail)
  go_region_held3 (fun (w' : World) => w'.cell? ⟨g, 0, none⟩ = some (.bool n1) ∧ w'.cell? ⟨g, 1, none⟩ = some (.int .i8 s1) ∧ w'.cell? ⟨g, 2, none⟩ = some (.int .u64 c1) ∧ w'.cell? ⟨g + 1, 0, none⟩ = some (.bool n2) ∧ w'.cell? ⟨g + 1, 1, none⟩ = some (.int .i8 s2) ∧ w'.cell? ⟨g + 1, 2, none⟩ = some (.int .u64 c2)) (first | exact ⟨z20_0, z20_1, z20_2, z20_3, z20_4, z20_5⟩ | exact ⟨z22_0, z22_1, z22_2, z22_3, z22_4, z22_5⟩ | exact ⟨z24_0, z24_1, z24_2, z24_3, z24_4, z24_5⟩) (first
    | (go_at_call 93; (with_reducible refine (Scale_any n1 s1 c1 _ hs1).mono ?_); rintro e y21_ ⟨rfl, r⟩; have hy : Fresh y19_ y21_ := (by first | exact r | exact r.of_drew | exact r.of_drewN); have z22_0 := cell_fresh z20_0 hy; have z22_1 := cell_fresh z20_1 hy; have z22_2 := cell_fresh z20_2 hy; have z22_3 := cell_fresh z20_3 hy; have z22_4 := cell_fresh z20_4 hy; have z22_5 := cell_fresh z20_5 hy; have fy21_ := hy; have H_fy21_ := Lib.hid fy21_; clear r hy fy21_)
    | (go_at_call 93; (with_reducible refine (Scale_any n2 s2 c2 _ hs2).mono ?_); rintro e y23_ ⟨rfl, r⟩; have hy : Fresh y21_ y23_ := r; have z24_0 := cell_fresh z22_0 hy; have z24_1 := cell_fresh z22_1 hy; have z24_2 := cell_fresh z22_2 hy; have z24_3 := cell_fresh z22_3 hy; have z24_4 := cell_fresh z22_4 hy; have z24_5 := cell_fresh z22_5 hy; have fy23_ := fresh_trans H_fy21_.out hy; have H_fy23_ := Lib.hid fy23_; clear r hy fy23_))
  have Fy23_ := fresh_trans H_Fy19_.out H_fy23_.out
  have H_Fy23_ := Lib.hid Fy23_
  clear Fy23_
  go_wp2_with (fail)
  go_region_held3 (fun (w' : World) => w'.cell? ⟨g, 0, none⟩ = some (.bool n1) ∧ w'.cell? ⟨g, 1, none⟩ = some (.int .i8 s1) ∧ w'.cell? ⟨g, 2, none⟩ = some (.int .u64 c1) ∧ w'.cell? ⟨g + 1, 0, none⟩ = some (.bool n2) ∧ w'.cell? ⟨g + 1, 1, none⟩ = some (.int .i8 s2) ∧ w'.cell? ⟨g + 1, 2, none⟩ = some (.int .u64 c2)) (first | exact ⟨u0, u1, u2, u3, u4, u5⟩ | exact ⟨z24_0, z24_1, z24_2, z24_3, z24_4, z24_5⟩ | exact ⟨z26_0, z26_1, z26_2, z26_3, z26_4, z26_5⟩ | exact ⟨z28_0, z28_1, z28_2, z28_3, z28_4, z28_5⟩) (first
    | (go_at_call 93; (with_reducible refine (Scale_any n2 s2 c2 _ hs2).mono ?_); rintro e y25_ ⟨rfl, r⟩; have hy : Fresh y23_ y25_ := (by first | exact r | exact r.of_drew | exact r.of_drewN); have z26_0 := cell_fresh z24_0 hy; have z26_1 := cell_fresh z24_1 hy; have z26_2 := cell_fresh z24_2 hy; have z26_3 := cell_fresh z24_3 hy; have z26_4 := cell_fresh z24_4 hy; have z26_5 := cell_fresh z24_5 hy; have fy25_ := hy; have H_fy25_ := Lib.hid fy25_; clear r hy fy25_)
    | (go_at_call 93; (with_reducible refine (Scale_any n1 s1 c1 _ hs1).mono ?_); rintro e y27_ ⟨rfl, r⟩; have hy : Fresh y25_ y27_ := r; have z28_0 := cell_fresh z26_0 hy; have z28_1 := cell_fresh z26_1 hy; have z28_2 := cell_fresh z26_2 hy; have z28_3 := cell_fresh z26_3 hy; have z28_4 := cell_fresh z26_4 hy; have z28_5 := cell_fresh z26_5 hy; have fy27_ := fresh_trans H_fy25_.out hy; have H_fy27_ := Lib.hid fy27_; clear r hy fy27_)
    | (go_at_call 112; (with_reducible refine (lsh_self p vp c1 k _ ((H_hG.out.fresh H_hf.out).fresh (fresh_trans H_g5.out (fresh_trans H_Fy23_.out H_fy27_.out))) ((H_hP.out.fresh H_hf.out).fresh (fresh_trans H_g5.out (fresh_trans H_Fy23_.out H_fy27_.out))) (wpow_big (by omega)) hk19 (H_p5.out.fresh (fresh_trans H_Fy23_.out H_fy27_.out))).mono ?_); rintro e w6 ⟨rfl, hb⟩; have oz := hb.other (H_q5.out.fresh (fresh_trans H_Fy23_.out H_fy27_.out)) (H_p5.out.fresh (fresh_trans H_Fy23_.out H_fy27_.out)) (fun e => hpq e.symm) (fun k h e => H_sep.out k e h); obtain ⟨vz, xz, ovz, gz⟩ := hb.fresh_of (fresh_trans H_g5.out (fresh_trans H_Fy23_.out H_fy27_.out)) (by have := H_hp.out; omega) H_op4.out; have e1 := row_fresh H_b1.out gz; have e2 := row_fresh H_b2.out gz; have u0 := row_cell e1 0; have u1 := row_cell e1 1; have u2 := row_cell e1 2; have u3 := row_cell e2 0; have u4 := row_cell e2 1; have u5 := row_cell e2 2; simp at u0 u1 u2 u3 u4 u5; have H_oz := Lib.hid oz; have H_xz := Lib.hid xz; have H_gz := Lib.hid gz; clear oz xz gz ovz e1 e2 hb))
  go_wp2_with (fail)
  have pz := H_xz.out
  have qz := H_oz.out
  have H_pz := Lib.hid pz; clear pz
  have H_qz := Lib.hid qz; clear qz
  refine (bcmp_any p q _ _ (c1 * 10 ^ k) c2 _ (ten_wpow hc1 hk19) (wpow_big (by omega)) hpq H_pz.out H_qz.out).mono ?_
  rintro e w7 ⟨rfl, nq, rfl⟩
  have gq := Keep.drewN H_gz.out nq
  generalize hwq : World.drewN _ nq = wq at *
  have d1 := row_fresh H_b1.out gq
  have d2 := row_fresh H_b2.out gq
  have v0 := row_cell d1 0
  have v1 := row_cell d1 1
  have v2 := row_cell d1 2
  have v3 := row_cell d2 0
  have v4 := row_cell d2 1
  have v5 := row_cell d2 2
  simp at v0 v1 v2 v3 v4 v5
  have H_gq := Lib.hid gq; clear gq
  have H_d1 := Lib.hid d1; clear d1
  have H_d2 := Lib.hid d2; clear d2
  have H_hwq := Lib.hid hwq; clear hwq
  rcases cmpN_cases (c1 * 10 ^ k) c2 with ⟨hr, hcc⟩ | ⟨hr, hcc⟩ | ⟨hr, hcc⟩
  · rw [hr]
    have hv : cmpA sg (c1 * 10 ^ k) c2 = sg := by unfold cmpA; rw [if_pos hcc]
    have H_hv := Lib.hid hv
    clear hv hr hcc
    go_wp2_with (fail)
    refine (H_hsd.out _).mono ?_
    rintro e wz ⟨rfl, r⟩
    have H_rz := Lib.hid r
    clear r
    go_wp2_with (fail)
    refine leaves_cons (f := 110) (args := #[.pointer (some ⟨q, 0, none⟩)]) (by simp) (by simp [go_sem]) ?_
    refine (putBint_idle _ _).mono ?_
    rintro e u' w'' ⟨rfl, rfl, rfl⟩
    refine leaves_cons (f := 110) (args := #[.pointer (some ⟨p, 0, none⟩)]) (by simp [settle]) (by simp [go_sem]) ?_
    refine (putBint_idle _ _).mono ?_
    rintro e u' w'' ⟨rfl, rfl, rfl⟩
    refine ⟨.int .i64 sg, by simp [results, Tryz.results87], by rw [H_hv.out], fresh_trans (fresh_trans H_hf.out H_gq.out) H_rz.out⟩
  · rw [hr]
    have hv : cmpA sg (c1 * 10 ^ k) c2 = -sg := by unfold cmpA; rw [if_neg (by omega), if_pos hcc]
    have H_hv := Lib.hid hv
    clear hv hr hcc
    go_wp2_with (fail)
    refine (H_hse.out _).mono ?_
    rintro e wz ⟨rfl, r⟩
    have H_rz := Lib.hid r
    clear r
    go_wp2_with (fail)
    refine leaves_cons (f := 110) (args := #[.pointer (some ⟨q, 0, none⟩)]) (by simp) (by simp [go_sem]) ?_
    refine (putBint_idle _ _).mono ?_
    rintro e u' w'' ⟨rfl, rfl, rfl⟩
    refine leaves_cons (f := 110) (args := #[.pointer (some ⟨p, 0, none⟩)]) (by simp [settle]) (by simp [go_sem]) ?_
    refine (putBint_idle _ _).mono ?_
    rintro e u' w'' ⟨rfl, rfl, rfl⟩
    refine ⟨.int .i64 (-sg), by simp [results, Tryz.results87], by rw [H_hv.out], fresh_trans (fresh_trans H_hf.out H_gq.out) H_rz.out⟩
  · rw [hr]
    have hv : cmpA sg (c1 * 10 ^ k) c2 = 0 := by unfold cmpA; rw [if_neg (by omega), if_neg (by omega)]
    have H_hv := Lib.hid hv
    clear hv hr hcc
    go_wp2_with (fail)
    refine leaves_cons (f := 110) (args := #[.pointer (some ⟨q, 0, none⟩)]) (by simp) (by simp [go_sem]) ?_
    refine (putBint_idle _ _).mono ?_
    rintro e u' w'' ⟨rfl, rfl, rfl⟩
    refine leaves_cons (f := 110) (args := #[.pointer (some ⟨p, 0, none⟩)]) (by simp [settle]) (by simp [go_sem]) ?_
    refine (putBint_idle _ _).mono ?_
    rintro e u' w'' ⟨rfl, rfl, rfl⟩
    refine ⟨.int .i64 0, by simp [results, Tryz.results87], by rw [H_hv.out], fresh_trans H_hf.out H_gq.out⟩

theorem cmpBint_any (n1 n2 : Bool) (c1 s1 c2 s2 : Nat) (w : World) (hG : Glob w) (hP : Pow10s w) (hs1 : s1 ≤ 19) (hs2 : s2 ≤ 19) (hc1 : c1 ≤ 9999999999999999999) (hc2 : c2 ≤ 9999999999999999999) (hsg : gsign n1 c1 = gsign n2 c2) :
    Calls Tryz.prog 87 #[gd n1 s1 c1, gd n2 s2 c2] w (VRet w (.int .i64 (cmpA (gsign n1 c1) (c1 * 10 ^ (s2 - s1)) (c2 * 10 ^ (s1 - s2))))) := by
  rcases Nat.lt_trichotomy s1 s2 with h | h | h
  · exact cmpBint_lt n1 n2 c1 s1 c2 s2 w hG hP hs1 hs2 hc1 hc2 hsg h
  · exact cmpBint_eq n1 n2 c1 s1 c2 s2 w hG hP hs1 hs2 hc1 hc2 hsg h
  · exact cmpBint_gt n1 n2 c1 s1 c2 s2 w hG hP hs1 hs2 hc1 hc2 hsg h

end Go.Proofs.YtibaeafmgncjdaaGreatDoor

/- govalues' decimals compared: Cmp, CmpTotal; and the reference's order of them. -/
namespace Go.Proofs.YtibaeafmgncjdaaGreatDoor
open Go.RowKit

theorem zcmp_cases (n1 : Bool) (c1 s1 : Nat) (n2 : Bool) (c2 s2 : Nat) : zcmp n1 c1 s1 n2 c2 s2 = -1 ∨ zcmp n1 c1 s1 n2 c2 s2 = 1 ∨ zcmp n1 c1 s1 n2 c2 s2 = 0 := by
  unfold zcmp cmpZ
  split
  · exact .inl rfl
  · split
    · exact .inr (.inl rfl)
    · exact .inr (.inr rfl)

/-- the order of all forms, out of how they compare, and their places -/
def ctot (z : Int) (s1 s2 : Nat) : Int := if z = -1 then -1 else if z = 1 then 1 else if s2 < s1 then -1 else if s1 < s2 then 1 else 0

theorem zcmp_canon (n1 : Bool) (c1 s1 : Nat) (n2 : Bool) (c2 s2 : Nat) : zcmp (n1 && decide (0 < c1)) c1 s1 (n2 && decide (0 < c2)) c2 s2 = zcmp n1 c1 s1 n2 c2 s2 := by
  unfold zcmp; rw [zfix_canon, zfix_canon]

set_option maxRecDepth 20000 in
set_option maxHeartbeats 4000000 in
theorem Cmp_gt (n1 n2 : Bool) (c1 s1 c2 s2 : Nat) (w : World) (hG : Glob w) (hP : Pow10s w) (hE : ErrIs w) (_hs1 : s1 ≤ 19) (_hs2 : s2 ≤ 19) (_hc1 : c1 ≤ 9999999999999999999) (_hc2 : c2 ≤ 9999999999999999999) (h1 : n1 = true → 0 < c1) (h2 : n2 = true → 0 < c2) (hsg : gsign n2 c2 < gsign n1 c1) :
    Calls Tryz.prog 46 #[gd n1 s1 c1, gd n2 s2 c2] w (VRet w (.int .i64 (zcmp n1 c1 s1 n2 c2 s2))) := by
  rw [zcmp_gt h1 h2 hsg]
  have hsd := fun W => Sign_any n1 s1 c1 W
  have hse := fun W => Sign_any n2 s2 c2 W
  generalize gsign n1 c1 = a at *
  generalize gsign n2 c2 = b at *
  have t1 : decide (b < a) = true := by simp; omega
  obtain ⟨g, hg⟩ : ∃ g, g = w.heap.size := ⟨_, rfl⟩
  have bx := boxes2 w #[.bool n1, .int .i8 s1, .int .u64 c1] #[.bool n2, .int .i8 s2, .int .u64 c2] 62 62 g hg
  have H_bx := Lib.hid bx; clear bx
  have H_hsd := Lib.hid hsd; clear hsd
  have H_hse := Lib.hid hse; clear hse
  have H_hG := Lib.hid hG; clear hG
  have H_hP := Lib.hid hP; clear hP
  have H_hE := Lib.hid hE; clear hE
  have H_h1 := Lib.hid h1; clear h1
  have H_h2 := Lib.hid h2; clear h2
  go_enter Tryz.func46, Tryz.ntmps46
  go_wp2_with (fail)
  generalize hw1 : (w.alloc _).alloc _ = w1
  rw [← hg]
  obtain ⟨b1, b2, hf⟩ := H_bx.out w1 hw1
  have k0 := row_cell b1 0
  have k1 := row_cell b1 1
  have k2 := row_cell b1 2
  simp at k0 k1 k2
  have k3 := row_cell b2 0
  have k4 := row_cell b2 1
  have k5 := row_cell b2 2
  simp at k3 k4 k5
  have H_b1 := Lib.hid b1; clear b1
  have H_b2 := Lib.hid b2; clear b2
  have H_hf := Lib.hid hf; clear hf
  have H_hw1 := Lib.hid hw1; clear hw1
  have H_hg := Lib.hid hg; clear hg
  go_region_held3 (fun (w' : World) => w'.cell? ⟨g, 0, none⟩ = some (.bool n1) ∧ w'.cell? ⟨g, 1, none⟩ = some (.int .i8 s1) ∧ w'.cell? ⟨g, 2, none⟩ = some (.int .u64 c1) ∧ w'.cell? ⟨g + 1, 0, none⟩ = some (.bool n2) ∧ w'.cell? ⟨g + 1, 1, none⟩ = some (.int .i8 s2) ∧ w'.cell? ⟨g + 1, 2, none⟩ = some (.int .u64 c2)) (first | exact ⟨k0, k1, k2, k3, k4, k5⟩ | exact ⟨z2_0, z2_1, z2_2, z2_3, z2_4, z2_5⟩ | exact ⟨z4_0, z4_1, z4_2, z4_3, z4_4, z4_5⟩) (first
    | (go_at_call 73; (with_reducible refine (H_hsd.out _).mono ?_); rintro e y1_ ⟨rfl, r⟩; have hy : Fresh w1 y1_ := (by first | exact r | exact r.of_drew | exact r.of_drewN); have z2_0 := cell_fresh k0 hy; have z2_1 := cell_fresh k1 hy; have z2_2 := cell_fresh k2 hy; have z2_3 := cell_fresh k3 hy; have z2_4 := cell_fresh k4 hy; have z2_5 := cell_fresh k5 hy; have fy1_ := hy; have H_fy1_ := Lib.hid fy1_; clear r hy fy1_)
    | (go_at_call 73; (with_reducible refine (H_hse.out _).mono ?_); rintro e y3_ ⟨rfl, r⟩; have hy : Fresh y1_ y3_ := r; have z4_0 := cell_fresh z2_0 hy; have z4_1 := cell_fresh z2_1 hy; have z4_2 := cell_fresh z2_2 hy; have z4_3 := cell_fresh z2_3 hy; have z4_4 := cell_fresh z2_4 hy; have z4_5 := cell_fresh z2_5 hy; have fy3_ := fresh_trans H_fy1_.out hy; have H_fy3_ := Lib.hid fy3_; clear r hy fy3_))
  have Fy3_ := H_fy3_.out
  have H_Fy3_ := Lib.hid Fy3_
  clear Fy3_
  go_wp2_with (fail)
  go_ret
  exact ⟨rfl, fresh_trans H_hf.out H_Fy3_.out⟩

set_option maxRecDepth 20000 in
set_option maxHeartbeats 4000000 in
theorem Cmp_lt (n1 n2 : Bool) (c1 s1 c2 s2 : Nat) (w : World) (hG : Glob w) (hP : Pow10s w) (hE : ErrIs w) (_hs1 : s1 ≤ 19) (_hs2 : s2 ≤ 19) (_hc1 : c1 ≤ 9999999999999999999) (_hc2 : c2 ≤ 9999999999999999999) (h1 : n1 = true → 0 < c1) (h2 : n2 = true → 0 < c2) (hsg : gsign n1 c1 < gsign n2 c2) :
    Calls Tryz.prog 46 #[gd n1 s1 c1, gd n2 s2 c2] w (VRet w (.int .i64 (zcmp n1 c1 s1 n2 c2 s2))) := by
  rw [zcmp_lt h1 h2 hsg]
  have hsd := fun W => Sign_any n1 s1 c1 W
  have hse := fun W => Sign_any n2 s2 c2 W
  generalize gsign n1 c1 = a at *
  generalize gsign n2 c2 = b at *
  have t0 : decide (b < a) = false := by simp; omega
  have hn0 : ¬ b < a := by omega
  have t1 : decide (a < b) = true := by simp; omega
  obtain ⟨g, hg⟩ : ∃ g, g = w.heap.size := ⟨_, rfl⟩
  have bx := boxes2 w #[.bool n1, .int .i8 s1, .int .u64 c1] #[.bool n2, .int .i8 s2, .int .u64 c2] 62 62 g hg
  have H_bx := Lib.hid bx; clear bx
  have H_hsd := Lib.hid hsd; clear hsd
  have H_hse := Lib.hid hse; clear hse
  have H_hG := Lib.hid hG; clear hG
  have H_hP := Lib.hid hP; clear hP
  have H_hE := Lib.hid hE; clear hE
  have H_h1 := Lib.hid h1; clear h1
  have H_h2 := Lib.hid h2; clear h2
  go_enter Tryz.func46, Tryz.ntmps46
  go_wp2_with (fail)
  generalize hw1 : (w.alloc _).alloc _ = w1
  rw [← hg]
  obtain ⟨b1, b2, hf⟩ := H_bx.out w1 hw1
  have k0 := row_cell b1 0
  have k1 := row_cell b1 1
  have k2 := row_cell b1 2
  simp at k0 k1 k2
  have k3 := row_cell b2 0
  have k4 := row_cell b2 1
  have k5 := row_cell b2 2
  simp at k3 k4 k5
  have H_b1 := Lib.hid b1; clear b1
  have H_b2 := Lib.hid b2; clear b2
  have H_hf := Lib.hid hf; clear hf
  have H_hw1 := Lib.hid hw1; clear hw1
  have H_hg := Lib.hid hg; clear hg
  go_region_held3 (fun (w' : World) => w'.cell? ⟨g, 0, none⟩ = some (.bool n1) ∧ w'.cell? ⟨g, 1, none⟩ = some (.int .i8 s1) ∧ w'.cell? ⟨g, 2, none⟩ = some (.int .u64 c1) ∧ w'.cell? ⟨g + 1, 0, none⟩ = some (.bool n2) ∧ w'.cell? ⟨g + 1, 1, none⟩ = some (.int .i8 s2) ∧ w'.cell? ⟨g + 1, 2, none⟩ = some (.int .u64 c2)) (first | exact ⟨k0, k1, k2, k3, k4, k5⟩ | exact ⟨z6_0, z6_1, z6_2, z6_3, z6_4, z6_5⟩ | exact ⟨z8_0, z8_1, z8_2, z8_3, z8_4, z8_5⟩) (first
    | (go_at_call 73; (with_reducible refine (H_hsd.out _).mono ?_); rintro e y5_ ⟨rfl, r⟩; have hy : Fresh w1 y5_ := (by first | exact r | exact r.of_drew | exact r.of_drewN); have z6_0 := cell_fresh k0 hy; have z6_1 := cell_fresh k1 hy; have z6_2 := cell_fresh k2 hy; have z6_3 := cell_fresh k3 hy; have z6_4 := cell_fresh k4 hy; have z6_5 := cell_fresh k5 hy; have fy5_ := hy; have H_fy5_ := Lib.hid fy5_; clear r hy fy5_)
    | (go_at_call 73; (with_reducible refine (H_hse.out _).mono ?_); rintro e y7_ ⟨rfl, r⟩; have hy : Fresh y5_ y7_ := r; have z8_0 := cell_fresh z6_0 hy; have z8_1 := cell_fresh z6_1 hy; have z8_2 := cell_fresh z6_2 hy; have z8_3 := cell_fresh z6_3 hy; have z8_4 := cell_fresh z6_4 hy; have z8_5 := cell_fresh z6_5 hy; have fy7_ := fresh_trans H_fy5_.out hy; have H_fy7_ := Lib.hid fy7_; clear r hy fy7_))
  have Fy7_ := H_fy7_.out
  have H_Fy7_ := Lib.hid Fy7_
  clear Fy7_
  go_wp2_with (fail)
  go_region_held3 (fun (w' : World) => w'.cell? ⟨g, 0, none⟩ = some (.bool n1) ∧ w'.cell? ⟨g, 1, none⟩ = some (.int .i8 s1) ∧ w'.cell? ⟨g, 2, none⟩ = some (.int .u64 c1) ∧ w'.cell? ⟨g + 1, 0, none⟩ = some (.bool n2) ∧ w'.cell? ⟨g + 1, 1, none⟩ = some (.int .i8 s2) ∧ w'.cell? ⟨g + 1, 2, none⟩ = some (.int .u64 c2)) (first | exact ⟨z8_0, z8_1, z8_2, z8_3, z8_4, z8_5⟩ | exact ⟨z10_0, z10_1, z10_2, z10_3, z10_4, z10_5⟩ | exact ⟨z12_0, z12_1, z12_2, z12_3, z12_4, z12_5⟩) (first
    | (go_at_call 73; (with_reducible refine (H_hsd.out _).mono ?_); rintro e y9_ ⟨rfl, r⟩; have hy : Fresh y7_ y9_ := (by first | exact r | exact r.of_drew | exact r.of_drewN); have z10_0 := cell_fresh z8_0 hy; have z10_1 := cell_fresh z8_1 hy; have z10_2 := cell_fresh z8_2 hy; have z10_3 := cell_fresh z8_3 hy; have z10_4 := cell_fresh z8_4 hy; have z10_5 := cell_fresh z8_5 hy; have fy9_ := hy; have H_fy9_ := Lib.hid fy9_; clear r hy fy9_)
    | (go_at_call 73; (with_reducible refine (H_hse.out _).mono ?_); rintro e y11_ ⟨rfl, r⟩; have hy : Fresh y9_ y11_ := r; have z12_0 := cell_fresh z10_0 hy; have z12_1 := cell_fresh z10_1 hy; have z12_2 := cell_fresh z10_2 hy; have z12_3 := cell_fresh z10_3 hy; have z12_4 := cell_fresh z10_4 hy; have z12_5 := cell_fresh z10_5 hy; have fy11_ := fresh_trans H_fy9_.out hy; have H_fy11_ := Lib.hid fy11_; clear r hy fy11_))
  have Fy11_ := fresh_trans H_Fy7_.out H_fy11_.out
  have H_Fy11_ := Lib.hid Fy11_
  clear Fy11_
  go_wp2_with (fail)
  go_ret
  exact ⟨rfl, fresh_trans H_hf.out H_Fy11_.out⟩

set_option maxRecDepth 20000 in
set_option maxHeartbeats 4000000 in
theorem Cmp_eq (n1 n2 : Bool) (c1 s1 c2 s2 : Nat) (w : World) (hG : Glob w) (hP : Pow10s w) (hE : ErrIs w) (hs1 : s1 ≤ 19) (hs2 : s2 ≤ 19) (hc1 : c1 ≤ 9999999999999999999) (hc2 : c2 ≤ 9999999999999999999) (h1 : n1 = true → 0 < c1) (h2 : n2 = true → 0 < c2) (hsg : gsign n1 c1 = gsign n2 c2) :
    Calls Tryz.prog 46 #[gd n1 s1 c1, gd n2 s2 c2] w (VRet w (.int .i64 (zcmp n1 c1 s1 n2 c2 s2))) := by
  rw [zcmp_eq h1 h2 hsg]
  have hsd := fun W => Sign_any n1 s1 c1 W
  have hse := fun W => Sign_any n2 s2 c2 W
  have hcf := fun W (hW : Fresh w W) => cmpFint_any n1 n2 c1 s1 c2 s2 W (hP.fresh hW) (hE.fresh hW) hs1 hs2 hc1 hc2 hsg
  have hcb := fun W (hW : Fresh w W) => cmpBint_any n1 n2 c1 s1 c2 s2 W (hG.fresh hW) (hP.fresh hW) hs1 hs2 hc1 hc2 hsg
  generalize cmpA (gsign n1 c1) (c1 * 10 ^ (s2 - s1)) (c2 * 10 ^ (s1 - s2)) = r at *
  rw [← hsg] at hse
  generalize gsign n1 c1 = a at *
  clear hsg
  have t1 : decide (a < a) = false := by simp
  obtain ⟨g, hg⟩ : ∃ g, g = w.heap.size := ⟨_, rfl⟩
  have bx := boxes2 w #[.bool n1, .int .i8 s1, .int .u64 c1] #[.bool n2, .int .i8 s2, .int .u64 c2] 62 62 g hg
  have H_bx := Lib.hid bx; clear bx
  have H_hsd := Lib.hid hsd; clear hsd
  have H_hse := Lib.hid hse; clear hse
  have H_hcf := Lib.hid hcf; clear hcf
  have H_hcb := Lib.hid hcb; clear hcb
  have H_hG := Lib.hid hG; clear hG
  have H_hP := Lib.hid hP; clear hP
  have H_hE := Lib.hid hE; clear hE
  have H_h1 := Lib.hid h1; clear h1
  have H_h2 := Lib.hid h2; clear h2
  go_enter Tryz.func46, Tryz.ntmps46
  go_wp2_with (fail)
  generalize hw1 : (w.alloc _).alloc _ = w1
  rw [← hg]
  obtain ⟨b1, b2, hf⟩ := H_bx.out w1 hw1
  have k0 := row_cell b1 0
  have k1 := row_cell b1 1
  have k2 := row_cell b1 2
  simp at k0 k1 k2
  have k3 := row_cell b2 0
  have k4 := row_cell b2 1
  have k5 := row_cell b2 2
  simp at k3 k4 k5
  have H_b1 := Lib.hid b1; clear b1
  have H_b2 := Lib.hid b2; clear b2
  have H_hf := Lib.hid hf; clear hf
  have H_hw1 := Lib.hid hw1; clear hw1
  have H_hg := Lib.hid hg; clear hg
  go_region_held3 (fun (w' : World) => w'.cell? ⟨g, 0, none⟩ = some (.bool n1) ∧ w'.cell? ⟨g, 1, none⟩ = some (.int .i8 s1) ∧ w'.cell? ⟨g, 2, none⟩ = some (.int .u64 c1) ∧ w'.cell? ⟨g + 1, 0, none⟩ = some (.bool n2) ∧ w'.cell? ⟨g + 1, 1, none⟩ = some (.int .i8 s2) ∧ w'.cell? ⟨g + 1, 2, none⟩ = some (.int .u64 c2)) (first | exact ⟨k0, k1, k2, k3, k4, k5⟩ | exact ⟨z14_0, z14_1, z14_2, z14_3, z14_4, z14_5⟩ | exact ⟨z16_0, z16_1, z16_2, z16_3, z16_4, z16_5⟩) (first
    | (go_at_call 73; (with_reducible refine (H_hsd.out _).mono ?_); rintro e y13_ ⟨rfl, r⟩; have hy : Fresh w1 y13_ := (by first | exact r | exact r.of_drew | exact r.of_drewN); have z14_0 := cell_fresh k0 hy; have z14_1 := cell_fresh k1 hy; have z14_2 := cell_fresh k2 hy; have z14_3 := cell_fresh k3 hy; have z14_4 := cell_fresh k4 hy; have z14_5 := cell_fresh k5 hy; have fy13_ := hy; have H_fy13_ := Lib.hid fy13_; clear r hy fy13_)
    | (go_at_call 73; (with_reducible refine (H_hse.out _).mono ?_); rintro e y15_ ⟨rfl, r⟩; have hy : Fresh y13_ y15_ := r; have z16_0 := cell_fresh z14_0 hy; have z16_1 := cell_fresh z14_1 hy; have z16_2 := cell_fresh z14_2 hy; have z16_3 := cell_fresh z14_3 hy; have z16_4 := cell_fresh z14_4 hy; have z16_5 := cell_fresh z14_5 hy; have fy15_ := fresh_trans H_fy13_.out hy; have H_fy15_ := Lib.hid fy15_; clear r hy fy15_))
  have Fy15_ := H_fy15_.out
  have H_Fy15_ := Lib.hid Fy15_
  clear Fy15_
  go_wp2_with (fail)
  go_region_held3 (fun (w' : World) => w'.cell? ⟨g, 0, none⟩ = some (.bool n1) ∧ w'.cell? ⟨g, 1, none⟩ = some (.int .i8 s1) ∧ w'.cell? ⟨g, 2, none⟩ = some (.int .u64 c1) ∧ w'.cell? ⟨g + 1, 0, none⟩ = some (.bool n2) ∧ w'.cell? ⟨g + 1, 1, none⟩ = some (.int .i8 s2) ∧ w'.cell? ⟨g + 1, 2, none⟩ = some (.int .u64 c2)) (first | exact ⟨z16_0, z16_1, z16_2, z16_3, z16_4, z16_5⟩ | exact ⟨z18_0, z18_1, z18_2, z18_3, z18_4, z18_5⟩ | exact ⟨z20_0, z20_1, z20_2, z20_3, z20_4, z20_5⟩) (first
    | (go_at_call 73; (with_reducible refine (H_hsd.out _).mono ?_); rintro e y17_ ⟨rfl, r⟩; have hy : Fresh y15_ y17_ := (by first | exact r | exact r.of_drew | exact r.of_drewN); have z18_0 := cell_fresh z16_0 hy; have z18_1 := cell_fresh z16_1 hy; have z18_2 := cell_fresh z16_2 hy; have z18_3 := cell_fresh z16_3 hy; have z18_4 := cell_fresh z16_4 hy; have z18_5 := cell_fresh z16_5 hy; have fy17_ := hy; have H_fy17_ := Lib.hid fy17_; clear r hy fy17_)
    | (go_at_call 73; (with_reducible refine (H_hse.out _).mono ?_); rintro e y19_ ⟨rfl, r⟩; have hy : Fresh y17_ y19_ := r; have z20_0 := cell_fresh z18_0 hy; have z20_1 := cell_fresh z18_1 hy; have z20_2 := cell_fresh z18_2 hy; have z20_3 := cell_fresh z18_3 hy; have z20_4 := cell_fresh z18_4 hy; have z20_5 := cell_fresh z18_5 hy; have fy19_ := fresh_trans H_fy17_.out hy; have H_fy19_ := Lib.hid fy19_; clear r hy fy19_))
  have Fy19_ := fresh_trans H_Fy15_.out H_fy19_.out
  have H_Fy19_ := Lib.hid Fy19_
  clear Fy19_
  go_wp2_with (fail)
  refine (H_hcf.out _ (fresh_trans H_hf.out H_Fy19_.out)).mono ?_
  rintro e wb ⟨fb, rfl | ⟨ae, rfl⟩⟩
  · have H_fb := Lib.hid (fresh_trans (fresh_trans H_hf.out H_Fy19_.out) fb)
    clear fb
    go_wp2_with (fail)
    go_ret
    exact ⟨rfl, H_fb.out⟩
  · have v0 := cell_fresh z20_0 fb
    have v1 := cell_fresh z20_1 fb
    have v2 := cell_fresh z20_2 fb
    have v3 := cell_fresh z20_3 fb
    have v4 := cell_fresh z20_4 fb
    have v5 := cell_fresh z20_5 fb
    have gb := fresh_trans (fresh_trans H_hf.out H_Fy19_.out) fb
    have H_gb := Lib.hid gb
    clear fb gb
    go_wp2_with (fail)
    refine (H_hcb.out _ H_gb.out).mono ?_
    rintro e wc ⟨rfl, fc⟩
    have H_fc := Lib.hid fc
    clear fc
    go_wp2_with (fail)
    go_ret
    exact ⟨rfl, fresh_trans H_gb.out H_fc.out⟩

theorem Cmp_any (n1 n2 : Bool) (c1 s1 c2 s2 : Nat) (w : World) (hG : Glob w) (hP : Pow10s w) (hE : ErrIs w) (hs1 : s1 ≤ 19) (hs2 : s2 ≤ 19) (hc1 : c1 ≤ 9999999999999999999) (hc2 : c2 ≤ 9999999999999999999) (h1 : n1 = true → 0 < c1) (h2 : n2 = true → 0 < c2) :
    Calls Tryz.prog 46 #[gd n1 s1 c1, gd n2 s2 c2] w (VRet w (.int .i64 (zcmp n1 c1 s1 n2 c2 s2))) := by
  rcases Int.lt_trichotomy (gsign n1 c1) (gsign n2 c2) with h | h | h
  · exact Cmp_lt n1 n2 c1 s1 c2 s2 w hG hP hE hs1 hs2 hc1 hc2 h1 h2 h
  · exact Cmp_eq n1 n2 c1 s1 c2 s2 w hG hP hE hs1 hs2 hc1 hc2 h1 h2 h
  · exact Cmp_gt n1 n2 c1 s1 c2 s2 w hG hP hE hs1 hs2 hc1 hc2 h1 h2 h

end Go.Proofs.YtibaeafmgncjdaaGreatDoor
