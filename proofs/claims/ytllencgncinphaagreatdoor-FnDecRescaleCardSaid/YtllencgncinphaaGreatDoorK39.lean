/- shopspring: rescale to any exponent that is at most 255 away. Printed by gen_rsw.py. -/
import Derived.Test.YtllencgncinphaaGreatDoorK8
import Derived.Test.YtllencgncinphaaGreatDoorK9
import Derived.Test.YtllencgncinphaaGreatDoorK19
import Derived.Test.YtllencgncinphaaGreatDoorK21
import Derived.Test.YtllencgncinphaaGreatDoorK26
import Derived.Test.YtllencgncinphaaGreatDoorK37
import Derived.Test.YtllencgncinphaaGreatDoorK38
namespace Go.Proofs.YtllencgncinphaaGreatDoor
open Go.RowKit

set_option maxRecDepth 20000 in
set_option maxHeartbeats 2000000 in
theorem rescale_ltW (b : Nat) (v : Value) (z e e' : Int) (w : World) (hG : Glob w) (hz : z.natAbs < wpow 30) (hx : ZI w b v z) (he : -400 ≤ e ∧ e ≤ 400) (he' : -400 ≤ e' ∧ e' ≤ 400) (hlt : e' < e) (hd : e - e' ≤ 255) :
    Calls Tryz.prog 96 #[sd b e, .int .i32 e'] w (fun r w' => ∃ b' v', r = .returned (sd b' e') ∧ ZI w' b' v' (z * ((10 ^ (e - e').toNat : Nat) : Int)) ∧ w.heap.size ≤ b' ∧ (∀ k, v'.ownBlock = some k → w.heap.size ≤ k) ∧ Fresh w w') := by
  obtain ⟨r, hr1, hr2⟩ := fdiff_ok he' he
  have hna : (((e' - e).natAbs : Nat) : Int) = (((e - e').toNat : Nat) : Int) := by omega
  rw [hna] at hr2
  obtain ⟨n, hn⟩ : ∃ n, n = (e - e').toNat := ⟨_, rfl⟩
  rw [← hn] at hr2
  rw [← hn]
  have hn127 : n ≤ 255 := by omega
  have hsub : ∀ W, (binOp .sub 125 (.float .f64 (floatOfInt .f64 e')) (.float .f64 (floatOfInt .f64 e))).run Tryz.prog W = .ok (.float .f64 r) W := fun W => run_float_arith W .sub 125 .f64 _ _ r hr1
  have hcv : ∀ W, (convert 125 2 (.float .f64 (fabs r))).run Tryz.prog W = .ok (.int .i64 n) W := fun W => run_convert_float_int W 125 2 .f64 .i64 (fabs r) n (by rw [Tryz.underlying125]; rfl) Tryz.underlying2 hr2
  have hab := fun W => Abs_any r W
  have hgv := fun W => getValue_any b e W
  have hpw := fun W (hW : Fresh w W) => pow10_all n W (hG.fresh hW) hn127
  have t1 : (e == e') = false := by rw [beq_eq_false_iff_ne]; omega
  have t2 : decide (e < e') = false := by simp; omega
  have t3 : ¬ e = e' := by omega
  have t4 : ¬ e < e' := by omega
  obtain ⟨g, hg⟩ : ∃ g, g = w.heap.size := ⟨_, rfl⟩
  have bx := boxes2 w #[.pointer (some ⟨b, 0, none⟩), .int .i32 e] #[.pointer none, .int .i32 0] 61 61 g hg
  have H_bx := Lib.hid bx; clear bx
  have H_hab := Lib.hid hab; clear hab
  have H_hgv := Lib.hid hgv; clear hgv
  have H_hpw := Lib.hid hpw; clear hpw
  have H_hsub := Lib.hid hsub; clear hsub
  have H_hcv := Lib.hid hcv; clear hcv
  have H_hx := Lib.hid hx; clear hx
  have H_hG := Lib.hid hG; clear hG
  have H_hz := Lib.hid hz; clear hz
  have H_hn127 := Lib.hid hn127; clear hn127
  have H_hn := Lib.hid hn; clear hn
  have H_he := Lib.hid he; clear he
  have H_he' := Lib.hid he'; clear he'
  have H_hd := Lib.hid hd; clear hd
  have H_hr1 := Lib.hid hr1; clear hr1
  have H_hr2 := Lib.hid hr2; clear hr2
  have H_hna := Lib.hid hna; clear hna
  have H_hlt := Lib.hid hlt; clear hlt
  go_enter Tryz.func96, Tryz.ntmps96
  go_wp2_with (fail)
  generalize hw1 : (w.alloc _).alloc _ = w1
  rw [← hg]
  obtain ⟨b1, b2, hf⟩ := H_bx.out w1 hw1
  have k0 := row_cell b1 0
  have k1 := row_cell b1 1
  simp at k0 k1
  have H_b1 := Lib.hid b1; clear b1
  have H_b2 := Lib.hid b2; clear b2
  have H_hf := Lib.hid hf; clear hf
  have H_hw1 := Lib.hid hw1; clear hw1
  have H_hg := Lib.hid hg; clear hg
  have hsub := H_hsub.out
  go_wp2_with (simp only [hsub])
  clear hsub
  refine (H_hab.out _).mono ?_
  rintro r1 w2 ⟨rfl, hw2⟩
  obtain rfl : w1 = w2 := hw2.symm
  have hnew : ∀ W, W = w1.alloc (.cells #[.bool false, .slice none 0 0] 110 (0, 0)) → ∃ c, c = w1.heap.size ∧ ZI W c (.slice none 0 0) 0 ∧ Fresh w1 W ∧ w.heap.size ≤ c := by
    rintro W rfl
    have h1 := H_hG.out.size
    have h2 := H_hf.out.size
    exact ⟨_, rfl, ZI.new (heap_alloc_new w1 _) (by omega), (Keep.refl _ _).alloc _, h2⟩
  have a0 := fun o => cell_fresh k0 ((Keep.refl (fun _ => False) w1).alloc o)
  have a1 := fun o => cell_fresh k1 ((Keep.refl (fun _ => False) w1).alloc o)
  have H_hnew := Lib.hid hnew; clear hnew
  go_wp2_with (fail)
  clear a0 a1
  generalize hw3 : w1.alloc _ = w3
  obtain ⟨c, hc, zc, fc, gc⟩ := H_hnew.out w3 hw3.symm
  rw [← hc]
  have hc1 : w1.heap.size ≤ c := by omega
  have f0 := fresh_trans H_hf.out fc
  have c0 := cell_fresh k0 fc
  have c1 := cell_fresh k1 fc
  have b3 := row_fresh H_b2.out fc
  clear k0 k1
  have H_hw3 := Lib.hid hw3; clear hw3
  have H_hc := Lib.hid hc; clear hc
  have H_zc := Lib.hid zc; clear zc
  have H_fc := Lib.hid fc; clear fc
  have H_gc := Lib.hid gc; clear gc
  have H_f0 := Lib.hid f0; clear f0
  have H_b3 := Lib.hid b3; clear b3
  have H_hc1 := Lib.hid hc1; clear hc1
  refine (H_hgv.out _).mono ?_
  rintro r1 w4 ⟨rfl, f4⟩
  have hcv := H_hcv.out
  have f5 := fresh_trans H_f0.out f4
  have H_f4 := Lib.hid f4; clear f4
  have H_f5 := Lib.hid f5; clear f5
  go_wp2_with (rw [hcv])
  clear hcv
  refine (H_hpw.out _ H_f5.out).mono ?_
  rintro r1 w5 ⟨bt, vt, rfl, zt, ft, gt, ot⟩
  have f6 := fresh_trans H_f5.out ft
  have f46 := fresh_trans H_f4.out ft
  have hblt := H_hx.out.lt
  have hcw4 := H_zc.out.lt
  have hmul := IntMul_z c b bt (.slice none 0 0) v vt 0 z ((10 ^ n : Nat) : Int) w5 (H_hG.out.fresh f6) (Nat.lt_of_lt_of_le H_hz.out (wpow_mono (by omega))) (ten_wpow39b (by have := H_hn127.out; omega)) (by have h1 := H_f4.out.size; have h2 := H_gc.out; omega) (H_zc.out.fresh f46) (H_hx.out.fresh f6) zt (Sep.nil _) (Sep.nil _)
  have H_hmul := Lib.hid hmul; clear hmul
  have H_f6 := Lib.hid f6; clear f6
  have H_f46 := Lib.hid f46; clear f46
  have H_zt := Lib.hid zt; clear zt
  have H_ft := Lib.hid ft; clear ft
  have H_gt := Lib.hid gt; clear gt
  have H_ot := Lib.hid ot; clear ot
  go_wp2_with (fail)
  refine H_hmul.out.mono ?_
  rintro r1 w6 ⟨rfl, hset⟩
  obtain ⟨v6, z6, f16, o6⟩ := hset.fresh (fresh_trans H_fc.out H_f46.out) H_hc1.out
  have b6 := row_fresh H_b2.out f16
  have d1 := row_fresh H_b1.out f16
  have p0 := row_cell b6 0
  have p1 := row_cell b6 1
  have k0 := row_cell d1 0
  have k1 := row_cell d1 1
  simp at p0 p1 k0 k1
  have q0 : w6.frozen? ⟨g + 1, 0, none⟩ = false := frozen_of_row _ _ _ _ _ b6
  have q1 : w6.frozen? ⟨g + 1, 1, none⟩ = false := frozen_of_row _ _ _ _ _ b6
  clear hset c0 c1
  have H_z6 := Lib.hid z6; clear z6
  have H_f16 := Lib.hid f16; clear f16
  have H_o6 := Lib.hid o6; clear o6
  have H_b6 := Lib.hid b6; clear b6
  have H_d1 := Lib.hid d1; clear d1
  go_wp2_with (fail)
  refine bodyPost_ret (results_cell_row rfl _ _ (g + 1) 61 #[.pointer (some ⟨c, 0, none⟩), .int .i32 e'] (0, 0) _ rfl (row_set (row_set H_b6.out)) Tryz.underlying61 rfl (by kernel_rfl)) rfl ?_
  have hgw := H_hg.out
  have h1s := H_hf.out.size
  have hlt2 := lt_of_row H_b2.out
  have hc1 := H_hc1.out
  have kk : ∀ u u', Keep (fun k => k = g + 1) w6 ((w6.setCell ⟨g + 1, 0, none⟩ u).setCell ⟨g + 1, 1, none⟩ u') := fun u u' => ((Keep.refl (fun k => k = g + 1) w6).setCell (p := ⟨g + 1, 0, none⟩) (fun _ => rfl) u).setCell (p := ⟨g + 1, 1, none⟩) (fun _ => rfl) u'
  exact ⟨c, v6, rfl, H_z6.out.keep (kk _ _) (fun h => by omega) (fun k hk h => by have := H_o6.out k hk; omega), Nat.le_trans h1s hc1, fun k hk => Nat.le_trans h1s (H_o6.out k hk),
    ((fresh_trans H_hf.out H_f16.out).setCell (p := ⟨g + 1, 0, none⟩) (fun h => by change g + 1 < w.heap.size at h; omega) _).setCell (p := ⟨g + 1, 1, none⟩) (fun h => by change g + 1 < w.heap.size at h; omega) _⟩

set_option maxRecDepth 20000 in
set_option maxHeartbeats 2000000 in
theorem rescale_gtWA (b : Nat) (v : Value) (z e e' : Int) (w : World) (hG : Glob w) (hz : z.natAbs < wpow 30) (hx : ZI w b v z) (he : -400 ≤ e ∧ e ≤ 400) (he' : -400 ≤ e' ∧ e' ≤ 400) (hlt : e < e') (hd : e' - e ≤ 255) (hv0 : z.tdiv ((10 ^ (e' - e).toNat : Nat) : Int) ≠ 0) :
    Calls Tryz.prog 96 #[sd b e, .int .i32 e'] w (fun r w' => ∃ b' v', r = .returned (sd b' e') ∧ ZI w' b' v' (z.tdiv ((10 ^ (e' - e).toNat : Nat) : Int)) ∧ w.heap.size ≤ b' ∧ (∀ k, v'.ownBlock = some k → w.heap.size ≤ k) ∧ Fresh w w') := by
  obtain ⟨r, hr1, hr2⟩ := fdiff_ok he' he
  have hna : (((e' - e).natAbs : Nat) : Int) = (((e' - e).toNat : Nat) : Int) := by omega
  rw [hna] at hr2
  obtain ⟨n, hn⟩ : ∃ n, n = (e' - e).toNat := ⟨_, rfl⟩
  rw [← hn] at hr2 hv0
  rw [← hn]
  have hn127 : n ≤ 255 := by omega
  have hsub : ∀ W, (binOp .sub 125 (.float .f64 (floatOfInt .f64 e')) (.float .f64 (floatOfInt .f64 e))).run Tryz.prog W = .ok (.float .f64 r) W := fun W => run_float_arith W .sub 125 .f64 _ _ r hr1
  have hcv : ∀ W, (convert 125 2 (.float .f64 (fabs r))).run Tryz.prog W = .ok (.int .i64 n) W := fun W => run_convert_float_int W 125 2 .f64 .i64 (fabs r) n (by rw [Tryz.underlying125]; rfl) Tryz.underlying2 hr2
  have hab := fun W => Abs_any r W
  have hgv := fun W => getValue_any b e W
  have hpw := fun W (hW : Fresh w W) => pow10_all n W (hG.fresh hW) hn127
  have t1 : (e == e') = false := by rw [beq_eq_false_iff_ne]; omega
  have t2 : decide (e < e') = true := by simp; omega
  have t3 : ¬ e = e' := by omega
  have t4 : e < e' := by omega
  obtain ⟨q, hq⟩ : ∃ q, q = z.tdiv ((10 ^ n : Nat) : Int) := ⟨_, rfl⟩
  rw [← hq] at hv0 ⊢
  have hqe := Lib.hid hq
  clear hq
  obtain ⟨g, hg⟩ : ∃ g, g = w.heap.size := ⟨_, rfl⟩
  have bx := boxes2 w #[.pointer (some ⟨b, 0, none⟩), .int .i32 e] #[.pointer none, .int .i32 0] 61 61 g hg
  have H_hv0 := Lib.hid hv0; clear hv0
  have H_bx := Lib.hid bx; clear bx
  have H_hab := Lib.hid hab; clear hab
  have H_hgv := Lib.hid hgv; clear hgv
  have H_hpw := Lib.hid hpw; clear hpw
  have H_hsub := Lib.hid hsub; clear hsub
  have H_hcv := Lib.hid hcv; clear hcv
  have H_hx := Lib.hid hx; clear hx
  have H_hG := Lib.hid hG; clear hG
  have H_hz := Lib.hid hz; clear hz
  have H_hn127 := Lib.hid hn127; clear hn127
  have H_hn := Lib.hid hn; clear hn
  have H_he := Lib.hid he; clear he
  have H_he' := Lib.hid he'; clear he'
  have H_hd := Lib.hid hd; clear hd
  have H_hr1 := Lib.hid hr1; clear hr1
  have H_hr2 := Lib.hid hr2; clear hr2
  have H_hna := Lib.hid hna; clear hna
  have H_hlt := Lib.hid hlt; clear hlt
  go_enter Tryz.func96, Tryz.ntmps96
  go_wp2_with (fail)
  generalize hw1 : (w.alloc _).alloc _ = w1
  rw [← hg]
  obtain ⟨b1, b2, hf⟩ := H_bx.out w1 hw1
  have k0 := row_cell b1 0
  have k1 := row_cell b1 1
  simp at k0 k1
  have H_b1 := Lib.hid b1; clear b1
  have H_b2 := Lib.hid b2; clear b2
  have H_hf := Lib.hid hf; clear hf
  have H_hw1 := Lib.hid hw1; clear hw1
  have H_hg := Lib.hid hg; clear hg
  have hsub := H_hsub.out
  go_wp2_with (simp only [hsub])
  clear hsub
  refine (H_hab.out _).mono ?_
  rintro r1 w2 ⟨rfl, hw2⟩
  obtain rfl : w1 = w2 := hw2.symm
  have hnew : ∀ W, W = w1.alloc (.cells #[.bool false, .slice none 0 0] 110 (0, 0)) → ∃ c, c = w1.heap.size ∧ ZI W c (.slice none 0 0) 0 ∧ Fresh w1 W ∧ w.heap.size ≤ c := by
    rintro W rfl
    have h1 := H_hG.out.size
    have h2 := H_hf.out.size
    exact ⟨_, rfl, ZI.new (heap_alloc_new w1 _) (by omega), (Keep.refl _ _).alloc _, h2⟩
  have a0 := fun o => cell_fresh k0 ((Keep.refl (fun _ => False) w1).alloc o)
  have a1 := fun o => cell_fresh k1 ((Keep.refl (fun _ => False) w1).alloc o)
  have H_hnew := Lib.hid hnew; clear hnew
  go_wp2_with (fail)
  clear a0 a1
  generalize hw3 : w1.alloc _ = w3
  obtain ⟨c, hc, zc, fc, gc⟩ := H_hnew.out w3 hw3.symm
  rw [← hc]
  have hc1 : w1.heap.size ≤ c := by omega
  have f0 := fresh_trans H_hf.out fc
  have c0 := cell_fresh k0 fc
  have c1 := cell_fresh k1 fc
  have b3 := row_fresh H_b2.out fc
  clear k0 k1
  have H_hw3 := Lib.hid hw3; clear hw3
  have H_hc := Lib.hid hc; clear hc
  have H_zc := Lib.hid zc; clear zc
  have H_fc := Lib.hid fc; clear fc
  have H_gc := Lib.hid gc; clear gc
  have H_f0 := Lib.hid f0; clear f0
  have H_b3 := Lib.hid b3; clear b3
  have H_hc1 := Lib.hid hc1; clear hc1
  refine (H_hgv.out _).mono ?_
  rintro r1 w4 ⟨rfl, f4⟩
  have hcv := H_hcv.out
  have f5 := fresh_trans H_f0.out f4
  have H_f4 := Lib.hid f4; clear f4
  have H_f5 := Lib.hid f5; clear f5
  go_wp2_with (rw [hcv])
  clear hcv
  refine (H_hpw.out _ H_f5.out).mono ?_
  rintro r1 w5 ⟨bt, vt, rfl, zt, ft, gt, ot⟩
  have f6 := fresh_trans H_f5.out ft
  have f46 := fresh_trans H_f4.out ft
  have hblt := H_hx.out.lt
  have hcw4 := H_zc.out.lt
  have hmul := IntQuo_z c b bt (.slice none 0 0) v vt 0 z ((10 ^ n : Nat) : Int) w5 (H_hG.out.fresh f6) (Nat.lt_of_lt_of_le H_hz.out (wpow_mono (by omega))) (ten_wpow39b (by have := H_hn127.out; omega)) (by have := ten_posI n; omega) (H_zc.out.fresh f46) (H_hx.out.fresh f6) zt (Sep.nil _)
  rw [← hqe.out] at hmul
  have H_hmul := Lib.hid hmul; clear hmul
  have H_f6 := Lib.hid f6; clear f6
  have H_f46 := Lib.hid f46; clear f46
  have H_zt := Lib.hid zt; clear zt
  have H_ft := Lib.hid ft; clear ft
  have H_gt := Lib.hid gt; clear gt
  have H_ot := Lib.hid ot; clear ot
  go_wp2_with (fail)
  refine H_hmul.out.mono ?_
  rintro r1 w6 ⟨rfl, hset⟩
  obtain ⟨v6, z6, f16, o6⟩ := hset.fresh (fresh_trans H_fc.out H_f46.out) H_hc1.out
  have hsg := IntSign_z c v6 q w6 z6
  obtain ⟨s, hs⟩ : ∃ s, s = (if q = 0 then (0 : Int) else if q < 0 then -1 else 1) := ⟨_, rfl⟩
  rw [← hs] at hsg
  have hs0 : ¬ s = 0 := by
    rw [hs, if_neg H_hv0.out]
    split <;> omega
  have t5 : (s == 0) = false := by rw [beq_eq_false_iff_ne]; exact hs0
  clear hset c0 c1 hs
  have H_z6 := Lib.hid z6; clear z6
  have H_f16 := Lib.hid f16; clear f16
  have H_o6 := Lib.hid o6; clear o6
  have H_hsg := Lib.hid hsg; clear hsg
  go_wp2_with (fail)
  refine H_hsg.out.mono ?_
  rintro r1 w7 ⟨rfl, hw7⟩
  obtain rfl : w6 = w7 := hw7.symm
  have b6 := row_fresh H_b2.out H_f16.out
  have p0 := row_cell b6 0
  have p1 := row_cell b6 1
  simp at p0 p1
  have q0 : w6.frozen? ⟨g + 1, 0, none⟩ = false := frozen_of_row _ _ _ _ _ b6
  have q1 : w6.frozen? ⟨g + 1, 1, none⟩ = false := frozen_of_row _ _ _ _ _ b6
  have H_b6 := Lib.hid b6; clear b6
  go_wp2_with (fail)
  refine bodyPost_ret (results_cell_row rfl _ _ (g + 1) 61 #[.pointer (some ⟨c, 0, none⟩), .int .i32 e'] (0, 0) _ rfl (row_set (row_set H_b6.out)) Tryz.underlying61 rfl (by kernel_rfl)) rfl ?_
  have hgw := H_hg.out
  have h1s := H_hf.out.size
  have hlt2 := lt_of_row H_b2.out
  have hc1 := H_hc1.out
  have kk : ∀ u u', Keep (fun k => k = g + 1) w6 ((w6.setCell ⟨g + 1, 0, none⟩ u).setCell ⟨g + 1, 1, none⟩ u') := fun u u' => ((Keep.refl (fun k => k = g + 1) w6).setCell (p := ⟨g + 1, 0, none⟩) (fun _ => rfl) u).setCell (p := ⟨g + 1, 1, none⟩) (fun _ => rfl) u'
  exact ⟨c, v6, rfl, H_z6.out.keep (kk _ _) (fun h => by omega) (fun k hk h => by have := H_o6.out k hk; omega), Nat.le_trans h1s hc1, fun k hk => Nat.le_trans h1s (H_o6.out k hk),
    ((fresh_trans H_hf.out H_f16.out).setCell (p := ⟨g + 1, 0, none⟩) (fun h => by change g + 1 < w.heap.size at h; omega) _).setCell (p := ⟨g + 1, 1, none⟩) (fun h => by change g + 1 < w.heap.size at h; omega) _⟩

set_option maxRecDepth 20000 in
set_option maxHeartbeats 2000000 in
theorem rescale_gtWB (b : Nat) (v : Value) (z e e' : Int) (w : World) (hG : Glob w) (hz : z.natAbs < wpow 30) (hx : ZI w b v z) (he : -400 ≤ e ∧ e ≤ 400) (he' : -400 ≤ e' ∧ e' ≤ 400) (hlt : e < e') (hd : e' - e ≤ 255) (hv0 : z.tdiv ((10 ^ (e' - e).toNat : Nat) : Int) = 0 ∧ z = 0) :
    Calls Tryz.prog 96 #[sd b e, .int .i32 e'] w (fun r w' => ∃ b' v', r = .returned (sd b' e') ∧ ZI w' b' v' (z.tdiv ((10 ^ (e' - e).toNat : Nat) : Int)) ∧ w.heap.size ≤ b' ∧ (∀ k, v'.ownBlock = some k → w.heap.size ≤ k) ∧ Fresh w w') := by
  obtain ⟨r, hr1, hr2⟩ := fdiff_ok he' he
  have hna : (((e' - e).natAbs : Nat) : Int) = (((e' - e).toNat : Nat) : Int) := by omega
  rw [hna] at hr2
  obtain ⟨n, hn⟩ : ∃ n, n = (e' - e).toNat := ⟨_, rfl⟩
  rw [← hn] at hr2 hv0
  rw [← hn]
  have hn127 : n ≤ 255 := by omega
  have hsub : ∀ W, (binOp .sub 125 (.float .f64 (floatOfInt .f64 e')) (.float .f64 (floatOfInt .f64 e))).run Tryz.prog W = .ok (.float .f64 r) W := fun W => run_float_arith W .sub 125 .f64 _ _ r hr1
  have hcv : ∀ W, (convert 125 2 (.float .f64 (fabs r))).run Tryz.prog W = .ok (.int .i64 n) W := fun W => run_convert_float_int W 125 2 .f64 .i64 (fabs r) n (by rw [Tryz.underlying125]; rfl) Tryz.underlying2 hr2
  have hab := fun W => Abs_any r W
  have hgv := fun W => getValue_any b e W
  have hpw := fun W (hW : Fresh w W) => pow10_all n W (hG.fresh hW) hn127
  have t1 : (e == e') = false := by rw [beq_eq_false_iff_ne]; omega
  have t2 : decide (e < e') = true := by simp; omega
  have t3 : ¬ e = e' := by omega
  have t4 : e < e' := by omega
  obtain ⟨q, hq⟩ : ∃ q, q = z.tdiv ((10 ^ n : Nat) : Int) := ⟨_, rfl⟩
  rw [← hq] at hv0 ⊢
  have hqe := Lib.hid hq
  clear hq
  obtain ⟨g, hg⟩ : ∃ g, g = w.heap.size := ⟨_, rfl⟩
  have bx := boxes2 w #[.pointer (some ⟨b, 0, none⟩), .int .i32 e] #[.pointer none, .int .i32 0] 61 61 g hg
  have H_hv0 := Lib.hid hv0; clear hv0
  have H_bx := Lib.hid bx; clear bx
  have H_hab := Lib.hid hab; clear hab
  have H_hgv := Lib.hid hgv; clear hgv
  have H_hpw := Lib.hid hpw; clear hpw
  have H_hsub := Lib.hid hsub; clear hsub
  have H_hcv := Lib.hid hcv; clear hcv
  have H_hx := Lib.hid hx; clear hx
  have H_hG := Lib.hid hG; clear hG
  have H_hz := Lib.hid hz; clear hz
  have H_hn127 := Lib.hid hn127; clear hn127
  have H_hn := Lib.hid hn; clear hn
  have H_he := Lib.hid he; clear he
  have H_he' := Lib.hid he'; clear he'
  have H_hd := Lib.hid hd; clear hd
  have H_hr1 := Lib.hid hr1; clear hr1
  have H_hr2 := Lib.hid hr2; clear hr2
  have H_hna := Lib.hid hna; clear hna
  have H_hlt := Lib.hid hlt; clear hlt
  go_enter Tryz.func96, Tryz.ntmps96
  go_wp2_with (fail)
  generalize hw1 : (w.alloc _).alloc _ = w1
  rw [← hg]
  obtain ⟨b1, b2, hf⟩ := H_bx.out w1 hw1
  have k0 := row_cell b1 0
  have k1 := row_cell b1 1
  simp at k0 k1
  have H_b1 := Lib.hid b1; clear b1
  have H_b2 := Lib.hid b2; clear b2
  have H_hf := Lib.hid hf; clear hf
  have H_hw1 := Lib.hid hw1; clear hw1
  have H_hg := Lib.hid hg; clear hg
  have hsub := H_hsub.out
  go_wp2_with (simp only [hsub])
  clear hsub
  refine (H_hab.out _).mono ?_
  rintro r1 w2 ⟨rfl, hw2⟩
  obtain rfl : w1 = w2 := hw2.symm
  have hnew : ∀ W, W = w1.alloc (.cells #[.bool false, .slice none 0 0] 110 (0, 0)) → ∃ c, c = w1.heap.size ∧ ZI W c (.slice none 0 0) 0 ∧ Fresh w1 W ∧ w.heap.size ≤ c := by
    rintro W rfl
    have h1 := H_hG.out.size
    have h2 := H_hf.out.size
    exact ⟨_, rfl, ZI.new (heap_alloc_new w1 _) (by omega), (Keep.refl _ _).alloc _, h2⟩
  have a0 := fun o => cell_fresh k0 ((Keep.refl (fun _ => False) w1).alloc o)
  have a1 := fun o => cell_fresh k1 ((Keep.refl (fun _ => False) w1).alloc o)
  have H_hnew := Lib.hid hnew; clear hnew
  go_wp2_with (fail)
  clear a0 a1
  generalize hw3 : w1.alloc _ = w3
  obtain ⟨c, hc, zc, fc, gc⟩ := H_hnew.out w3 hw3.symm
  rw [← hc]
  have hc1 : w1.heap.size ≤ c := by omega
  have f0 := fresh_trans H_hf.out fc
  have c0 := cell_fresh k0 fc
  have c1 := cell_fresh k1 fc
  have b3 := row_fresh H_b2.out fc
  clear k0 k1
  have H_hw3 := Lib.hid hw3; clear hw3
  have H_hc := Lib.hid hc; clear hc
  have H_zc := Lib.hid zc; clear zc
  have H_fc := Lib.hid fc; clear fc
  have H_gc := Lib.hid gc; clear gc
  have H_f0 := Lib.hid f0; clear f0
  have H_b3 := Lib.hid b3; clear b3
  have H_hc1 := Lib.hid hc1; clear hc1
  refine (H_hgv.out _).mono ?_
  rintro r1 w4 ⟨rfl, f4⟩
  have hcv := H_hcv.out
  have f5 := fresh_trans H_f0.out f4
  have H_f4 := Lib.hid f4; clear f4
  have H_f5 := Lib.hid f5; clear f5
  go_wp2_with (rw [hcv])
  clear hcv
  refine (H_hpw.out _ H_f5.out).mono ?_
  rintro r1 w5 ⟨bt, vt, rfl, zt, ft, gt, ot⟩
  have f6 := fresh_trans H_f5.out ft
  have f46 := fresh_trans H_f4.out ft
  have hblt := H_hx.out.lt
  have hcw4 := H_zc.out.lt
  have hmul := IntQuo_z c b bt (.slice none 0 0) v vt 0 z ((10 ^ n : Nat) : Int) w5 (H_hG.out.fresh f6) (Nat.lt_of_lt_of_le H_hz.out (wpow_mono (by omega))) (ten_wpow39b (by have := H_hn127.out; omega)) (by have := ten_posI n; omega) (H_zc.out.fresh f46) (H_hx.out.fresh f6) zt (Sep.nil _)
  rw [← hqe.out] at hmul
  have H_hmul := Lib.hid hmul; clear hmul
  have H_f6 := Lib.hid f6; clear f6
  have H_f46 := Lib.hid f46; clear f46
  have H_zt := Lib.hid zt; clear zt
  have H_ft := Lib.hid ft; clear ft
  have H_gt := Lib.hid gt; clear gt
  have H_ot := Lib.hid ot; clear ot
  go_wp2_with (fail)
  refine H_hmul.out.mono ?_
  rintro r1 w6 ⟨rfl, hset⟩
  obtain ⟨v6, z6, f16, o6⟩ := hset.fresh (fresh_trans H_fc.out H_f46.out) H_hc1.out
  have d1 := row_fresh H_b1.out f16
  have k0 := row_cell d1 0
  have k1 := row_cell d1 1
  simp at k0 k1
  have hsg := IntSign_z c v6 q w6 z6
  rw [if_pos H_hv0.out.1] at hsg
  have hsz := fun W (hW : Fresh w W) => IntSign_z b v z W (H_hx.out.fresh hW)
  rw [if_pos H_hv0.out.2] at hsz
  clear hset c0 c1
  have f6w := fresh_trans H_hf.out f16
  have H_z6 := Lib.hid z6; clear z6
  have H_f16 := Lib.hid f16; clear f16
  have H_o6 := Lib.hid o6; clear o6
  have H_hsg := Lib.hid hsg; clear hsg
  have H_hsz := Lib.hid hsz; clear hsz
  have H_d1 := Lib.hid d1; clear d1
  have H_f6w := Lib.hid f6w; clear f6w
  go_wp2_with (fail)
  refine H_hsg.out.mono ?_
  rintro r1 w7 ⟨rfl, hw7⟩
  obtain rfl : w6 = w7 := hw7.symm
  go_wp2_with (fail)
  refine (H_hgv.out _).mono ?_
  rintro r1 w7 ⟨rfl, f7⟩
  clear k0 k1
  have f17 := fresh_trans H_f16.out f7
  have z7 := H_z6.out.fresh f7
  have f7w := fresh_trans H_f6w.out f7
  have H_f7 := Lib.hid f7; clear f7
  have H_f17 := Lib.hid f17; clear f17
  have H_z7 := Lib.hid z7; clear z7
  have H_f7w := Lib.hid f7w; clear f7w
  go_wp2_with (fail)
  refine (H_hsz.out _ H_f7w.out).mono ?_
  rintro r1 w8 ⟨rfl, hw8⟩
  obtain rfl : w7 = w8 := hw8.symm
  have b6 := row_fresh H_b2.out H_f17.out
  have p0 := row_cell b6 0
  have p1 := row_cell b6 1
  simp at p0 p1
  have q0 : w7.frozen? ⟨g + 1, 0, none⟩ = false := frozen_of_row _ _ _ _ _ b6
  have q1 : w7.frozen? ⟨g + 1, 1, none⟩ = false := frozen_of_row _ _ _ _ _ b6
  have H_b6 := Lib.hid b6; clear b6
  go_wp2_with (fail)
  refine bodyPost_ret (results_cell_row rfl _ _ (g + 1) 61 #[.pointer (some ⟨c, 0, none⟩), .int .i32 e'] (0, 0) _ rfl (row_set (row_set H_b6.out)) Tryz.underlying61 rfl (by kernel_rfl)) rfl ?_
  have hgw := H_hg.out
  have h1s := H_hf.out.size
  have hlt2 := lt_of_row H_b2.out
  have hc1 := H_hc1.out
  have kk : ∀ u u', Keep (fun k => k = g + 1) w7 ((w7.setCell ⟨g + 1, 0, none⟩ u).setCell ⟨g + 1, 1, none⟩ u') := fun u u' => ((Keep.refl (fun k => k = g + 1) w7).setCell (p := ⟨g + 1, 0, none⟩) (fun _ => rfl) u).setCell (p := ⟨g + 1, 1, none⟩) (fun _ => rfl) u'
  exact ⟨c, v6, rfl, H_z7.out.keep (kk _ _) (fun h => by omega) (fun k hk h => by have := H_o6.out k hk; omega), Nat.le_trans h1s hc1, fun k hk => Nat.le_trans h1s (H_o6.out k hk),
    ((fresh_trans H_hf.out H_f17.out).setCell (p := ⟨g + 1, 0, none⟩) (fun h => by change g + 1 < w.heap.size at h; omega) _).setCell (p := ⟨g + 1, 1, none⟩) (fun h => by change g + 1 < w.heap.size at h; omega) _⟩

set_option maxRecDepth 20000 in
set_option maxHeartbeats 2000000 in
theorem rescale_gtWC (b : Nat) (v : Value) (z e e' : Int) (w : World) (hG : Glob w) (hz : z.natAbs < wpow 30) (hx : ZI w b v z) (he : -400 ≤ e ∧ e ≤ 400) (he' : -400 ≤ e' ∧ e' ≤ 400) (hlt : e < e') (hd : e' - e ≤ 255) (hv0 : z.tdiv ((10 ^ (e' - e).toNat : Nat) : Int) = 0 ∧ z ≠ 0) :
    Calls Tryz.prog 96 #[sd b e, .int .i32 e'] w (fun r w' => ∃ b' v', r = .returned (sd b' e') ∧ ZI w' b' v' (z.tdiv ((10 ^ (e' - e).toNat : Nat) : Int)) ∧ w.heap.size ≤ b' ∧ (∀ k, v'.ownBlock = some k → w.heap.size ≤ k) ∧ Fresh w w') := by
  obtain ⟨r, hr1, hr2⟩ := fdiff_ok he' he
  have hna : (((e' - e).natAbs : Nat) : Int) = (((e' - e).toNat : Nat) : Int) := by omega
  rw [hna] at hr2
  obtain ⟨n, hn⟩ : ∃ n, n = (e' - e).toNat := ⟨_, rfl⟩
  rw [← hn] at hr2 hv0
  rw [← hn]
  have hn127 : n ≤ 255 := by omega
  have hsub : ∀ W, (binOp .sub 125 (.float .f64 (floatOfInt .f64 e')) (.float .f64 (floatOfInt .f64 e))).run Tryz.prog W = .ok (.float .f64 r) W := fun W => run_float_arith W .sub 125 .f64 _ _ r hr1
  have hcv : ∀ W, (convert 125 2 (.float .f64 (fabs r))).run Tryz.prog W = .ok (.int .i64 n) W := fun W => run_convert_float_int W 125 2 .f64 .i64 (fabs r) n (by rw [Tryz.underlying125]; rfl) Tryz.underlying2 hr2
  have hab := fun W => Abs_any r W
  have hgv := fun W => getValue_any b e W
  have hpw := fun W (hW : Fresh w W) => pow10_all n W (hG.fresh hW) hn127
  have t1 : (e == e') = false := by rw [beq_eq_false_iff_ne]; omega
  have t2 : decide (e < e') = true := by simp; omega
  have t3 : ¬ e = e' := by omega
  have t4 : e < e' := by omega
  obtain ⟨q, hq⟩ : ∃ q, q = z.tdiv ((10 ^ n : Nat) : Int) := ⟨_, rfl⟩
  rw [← hq] at hv0 ⊢
  have hqe := Lib.hid hq
  clear hq
  obtain ⟨g, hg⟩ : ∃ g, g = w.heap.size := ⟨_, rfl⟩
  have bx := boxes2 w #[.pointer (some ⟨b, 0, none⟩), .int .i32 e] #[.pointer none, .int .i32 0] 61 61 g hg
  have H_hv0 := Lib.hid hv0; clear hv0
  have H_bx := Lib.hid bx; clear bx
  have H_hab := Lib.hid hab; clear hab
  have H_hgv := Lib.hid hgv; clear hgv
  have H_hpw := Lib.hid hpw; clear hpw
  have H_hsub := Lib.hid hsub; clear hsub
  have H_hcv := Lib.hid hcv; clear hcv
  have H_hx := Lib.hid hx; clear hx
  have H_hG := Lib.hid hG; clear hG
  have H_hz := Lib.hid hz; clear hz
  have H_hn127 := Lib.hid hn127; clear hn127
  have H_hn := Lib.hid hn; clear hn
  have H_he := Lib.hid he; clear he
  have H_he' := Lib.hid he'; clear he'
  have H_hd := Lib.hid hd; clear hd
  have H_hr1 := Lib.hid hr1; clear hr1
  have H_hr2 := Lib.hid hr2; clear hr2
  have H_hna := Lib.hid hna; clear hna
  have H_hlt := Lib.hid hlt; clear hlt
  go_enter Tryz.func96, Tryz.ntmps96
  go_wp2_with (fail)
  generalize hw1 : (w.alloc _).alloc _ = w1
  rw [← hg]
  obtain ⟨b1, b2, hf⟩ := H_bx.out w1 hw1
  have k0 := row_cell b1 0
  have k1 := row_cell b1 1
  simp at k0 k1
  have H_b1 := Lib.hid b1; clear b1
  have H_b2 := Lib.hid b2; clear b2
  have H_hf := Lib.hid hf; clear hf
  have H_hw1 := Lib.hid hw1; clear hw1
  have H_hg := Lib.hid hg; clear hg
  have hsub := H_hsub.out
  go_wp2_with (simp only [hsub])
  clear hsub
  refine (H_hab.out _).mono ?_
  rintro r1 w2 ⟨rfl, hw2⟩
  obtain rfl : w1 = w2 := hw2.symm
  have hnew : ∀ W, W = w1.alloc (.cells #[.bool false, .slice none 0 0] 110 (0, 0)) → ∃ c, c = w1.heap.size ∧ ZI W c (.slice none 0 0) 0 ∧ Fresh w1 W ∧ w.heap.size ≤ c := by
    rintro W rfl
    have h1 := H_hG.out.size
    have h2 := H_hf.out.size
    exact ⟨_, rfl, ZI.new (heap_alloc_new w1 _) (by omega), (Keep.refl _ _).alloc _, h2⟩
  have a0 := fun o => cell_fresh k0 ((Keep.refl (fun _ => False) w1).alloc o)
  have a1 := fun o => cell_fresh k1 ((Keep.refl (fun _ => False) w1).alloc o)
  have H_hnew := Lib.hid hnew; clear hnew
  go_wp2_with (fail)
  clear a0 a1
  generalize hw3 : w1.alloc _ = w3
  obtain ⟨c, hc, zc, fc, gc⟩ := H_hnew.out w3 hw3.symm
  rw [← hc]
  have hc1 : w1.heap.size ≤ c := by omega
  have f0 := fresh_trans H_hf.out fc
  have c0 := cell_fresh k0 fc
  have c1 := cell_fresh k1 fc
  have b3 := row_fresh H_b2.out fc
  clear k0 k1
  have H_hw3 := Lib.hid hw3; clear hw3
  have H_hc := Lib.hid hc; clear hc
  have H_zc := Lib.hid zc; clear zc
  have H_fc := Lib.hid fc; clear fc
  have H_gc := Lib.hid gc; clear gc
  have H_f0 := Lib.hid f0; clear f0
  have H_b3 := Lib.hid b3; clear b3
  have H_hc1 := Lib.hid hc1; clear hc1
  refine (H_hgv.out _).mono ?_
  rintro r1 w4 ⟨rfl, f4⟩
  have hcv := H_hcv.out
  have f5 := fresh_trans H_f0.out f4
  have H_f4 := Lib.hid f4; clear f4
  have H_f5 := Lib.hid f5; clear f5
  go_wp2_with (rw [hcv])
  clear hcv
  refine (H_hpw.out _ H_f5.out).mono ?_
  rintro r1 w5 ⟨bt, vt, rfl, zt, ft, gt, ot⟩
  have f6 := fresh_trans H_f5.out ft
  have f46 := fresh_trans H_f4.out ft
  have hblt := H_hx.out.lt
  have hcw4 := H_zc.out.lt
  have hmul := IntQuo_z c b bt (.slice none 0 0) v vt 0 z ((10 ^ n : Nat) : Int) w5 (H_hG.out.fresh f6) (Nat.lt_of_lt_of_le H_hz.out (wpow_mono (by omega))) (ten_wpow39b (by have := H_hn127.out; omega)) (by have := ten_posI n; omega) (H_zc.out.fresh f46) (H_hx.out.fresh f6) zt (Sep.nil _)
  rw [← hqe.out] at hmul
  have H_hmul := Lib.hid hmul; clear hmul
  have H_f6 := Lib.hid f6; clear f6
  have H_f46 := Lib.hid f46; clear f46
  have H_zt := Lib.hid zt; clear zt
  have H_ft := Lib.hid ft; clear ft
  have H_gt := Lib.hid gt; clear gt
  have H_ot := Lib.hid ot; clear ot
  go_wp2_with (fail)
  refine H_hmul.out.mono ?_
  rintro r1 w6 ⟨rfl, hset⟩
  obtain ⟨v6, z6, f16, o6⟩ := hset.fresh (fresh_trans H_fc.out H_f46.out) H_hc1.out
  have d1 := row_fresh H_b1.out f16
  have k0 := row_cell d1 0
  have k1 := row_cell d1 1
  simp at k0 k1
  have hsg := IntSign_z c v6 q w6 z6
  rw [if_pos H_hv0.out.1] at hsg
  have hsz := fun W (hW : Fresh w W) => IntSign_z b v z W (H_hx.out.fresh hW)
  rw [if_neg H_hv0.out.2] at hsz
  obtain ⟨s, hs⟩ : ∃ s, s = (if z < 0 then (-1 : Int) else 1) := ⟨_, rfl⟩
  rw [← hs] at hsz
  have hs0 : ¬ s = 0 := by rw [hs]; split <;> omega
  have t5 : (s == 0) = false := by rw [beq_eq_false_iff_ne]; exact hs0
  clear hs
  clear hset c0 c1
  have f6w := fresh_trans H_hf.out f16
  have H_z6 := Lib.hid z6; clear z6
  have H_f16 := Lib.hid f16; clear f16
  have H_o6 := Lib.hid o6; clear o6
  have H_hsg := Lib.hid hsg; clear hsg
  have H_hsz := Lib.hid hsz; clear hsz
  have H_d1 := Lib.hid d1; clear d1
  have H_f6w := Lib.hid f6w; clear f6w
  go_wp2_with (fail)
  refine H_hsg.out.mono ?_
  rintro r1 w7 ⟨rfl, hw7⟩
  obtain rfl : w6 = w7 := hw7.symm
  go_wp2_with (fail)
  refine (H_hgv.out _).mono ?_
  rintro r1 w7 ⟨rfl, f7⟩
  clear k0 k1
  have f17 := fresh_trans H_f16.out f7
  have z7 := H_z6.out.fresh f7
  have f7w := fresh_trans H_f6w.out f7
  have H_f7 := Lib.hid f7; clear f7
  have H_f17 := Lib.hid f17; clear f17
  have H_z7 := Lib.hid z7; clear z7
  have H_f7w := Lib.hid f7w; clear f7w
  go_wp2_with (fail)
  refine (H_hsz.out _ H_f7w.out).mono ?_
  rintro r1 w8 ⟨rfl, hw8⟩
  obtain rfl : w7 = w8 := hw8.symm
  have hsb : ∀ W, w7.alloc (.cells #[] 123) = W → Calls Tryz.prog 131 #[.pointer (some ⟨c, 0, none⟩), .slice (some ⟨w7.heap.size, 0, none⟩) 0 0] W (fun e w' => e = .returned (.pointer (some ⟨c, 0, none⟩)) ∧ ∃ v, ZI w' c v 0 ∧ (∀ k, v.ownBlock = some k → w1.heap.size ≤ k) ∧ Fresh w1 w') := by
    rintro W rfl
    obtain ⟨neg, l, hi, -⟩ := H_z7.out.fresh ((Keep.refl (fun _ => False) w7).alloc (.cells #[] 123))
    have hlt := H_z7.out.lt
    have hna : NatAt (w7.alloc (.cells #[] 123)) (.slice (some ⟨w7.heap.size, 0, none⟩) 0 0) [] := ⟨⟨by simp, by simp [CapOK]⟩, .inr ⟨w7.heap.size, 0, 0, [], rfl, ⟨123, by rw [heap_alloc_new]; rfl⟩, Nat.le_refl _, Nat.le_refl _, by simp [seg], by simp⟩⟩
    refine (SetBits_any c neg v6 l _ [] _ (by simp) hi hna (fun k hk => ?_)).mono ?_
    · simp only [Value.ownBlock, Option.some.injEq] at hk; omega
    · rintro e w' ⟨rfl, v8, h1, h2, h3⟩
      have hs17 := H_f17.out.size
      have hc1 := H_hc1.out
      refine ⟨rfl, v8, h1, fun k hk => ?_, (H_f17.out.alloc _).trans h2 (fun _ _ h => h) (fun k hk h => by omega)⟩
      have := h3 k hk
      simp only [Value.ownBlock, Option.some.injEq] at this
      omega
  have H_hsb := Lib.hid hsb; clear hsb
  go_wp2_with (fail)
  refine (H_hsb.out _ rfl).mono ?_
  rintro r1 w8 ⟨rfl, v8, z8, o8, f18⟩
  rw [← H_hv0.out.1] at z8
  have H_z8 := Lib.hid z8; clear z8
  have H_o8 := Lib.hid o8; clear o8
  have H_f18 := Lib.hid f18; clear f18
  have b6 := row_fresh H_b2.out H_f18.out
  have p0 := row_cell b6 0
  have p1 := row_cell b6 1
  simp at p0 p1
  have q0 : w8.frozen? ⟨g + 1, 0, none⟩ = false := frozen_of_row _ _ _ _ _ b6
  have q1 : w8.frozen? ⟨g + 1, 1, none⟩ = false := frozen_of_row _ _ _ _ _ b6
  have H_b6 := Lib.hid b6; clear b6
  go_wp2_with (fail)
  refine bodyPost_ret (results_cell_row rfl _ _ (g + 1) 61 #[.pointer (some ⟨c, 0, none⟩), .int .i32 e'] (0, 0) _ rfl (row_set (row_set H_b6.out)) Tryz.underlying61 rfl (by kernel_rfl)) rfl ?_
  have hgw := H_hg.out
  have h1s := H_hf.out.size
  have hlt2 := lt_of_row H_b2.out
  have hc1 := H_hc1.out
  have kk : ∀ u u', Keep (fun k => k = g + 1) w8 ((w8.setCell ⟨g + 1, 0, none⟩ u).setCell ⟨g + 1, 1, none⟩ u') := fun u u' => ((Keep.refl (fun k => k = g + 1) w8).setCell (p := ⟨g + 1, 0, none⟩) (fun _ => rfl) u).setCell (p := ⟨g + 1, 1, none⟩) (fun _ => rfl) u'
  exact ⟨c, v8, rfl, H_z8.out.keep (kk _ _) (fun h => by omega) (fun k hk h => by have := H_o8.out k hk; omega), Nat.le_trans h1s hc1, fun k hk => Nat.le_trans h1s (H_o8.out k hk),
    ((fresh_trans H_hf.out H_f18.out).setCell (p := ⟨g + 1, 0, none⟩) (fun h => by change g + 1 < w.heap.size at h; omega) _).setCell (p := ⟨g + 1, 1, none⟩) (fun h => by change g + 1 < w.heap.size at h; omega) _⟩

theorem rescale_gtW (b : Nat) (v : Value) (z e e' : Int) (w : World) (hG : Glob w) (hz : z.natAbs < wpow 30) (hx : ZI w b v z) (he : -400 ≤ e ∧ e ≤ 400) (he' : -400 ≤ e' ∧ e' ≤ 400) (hlt : e < e') (hd : e' - e ≤ 255) :
    Calls Tryz.prog 96 #[sd b e, .int .i32 e'] w (fun r w' => ∃ b' v', r = .returned (sd b' e') ∧ ZI w' b' v' (z.tdiv ((10 ^ (e' - e).toNat : Nat) : Int)) ∧ w.heap.size ≤ b' ∧ (∀ k, v'.ownBlock = some k → w.heap.size ≤ k) ∧ Fresh w w') := by
  by_cases h1 : z.tdiv ((10 ^ (e' - e).toNat : Nat) : Int) = 0
  · by_cases h2 : z = 0
    · exact rescale_gtWB b v z e e' w hG hz hx he he' hlt hd ⟨h1, h2⟩
    · exact rescale_gtWC b v z e e' w hG hz hx he he' hlt hd ⟨h1, h2⟩
  · exact rescale_gtWA b v z e e' w hG hz hx he he' hlt hd h1

set_option maxRecDepth 20000 in
set_option maxHeartbeats 4000000 in
theorem rescale_eqW (b : Nat) (v : Value) (z e : Int) (w : World) (hG : Glob w) (hz : z.natAbs < wpow 30) (hx : ZI w b v z) :
    Calls Tryz.prog 96 #[sd b e, .int .i32 e] w (fun r w' => ∃ b' v', r = .returned (sd b' e) ∧ ZI w' b' v' z ∧ w.heap.size ≤ b' ∧ (∀ k, v'.ownBlock = some k → w.heap.size ≤ k) ∧ Fresh w w') := by
  have hgv := fun W => getValue_any b e W
  obtain ⟨g, hg⟩ : ∃ g, g = w.heap.size := ⟨_, rfl⟩
  have bx := boxes2 w #[.pointer (some ⟨b, 0, none⟩), .int .i32 e] #[.pointer none, .int .i32 0] 61 61 g hg
  have hbl := hx.lt
  have H_bx := Lib.hid bx; clear bx
  have H_hgv := Lib.hid hgv; clear hgv
  have H_hx := Lib.hid hx; clear hx
  have H_hG := Lib.hid hG; clear hG
  have H_hz := Lib.hid hz; clear hz
  have H_hbl := Lib.hid hbl; clear hbl
  go_enter Tryz.func96, Tryz.ntmps96
  go_wp2_with (fail)
  generalize hw1 : (w.alloc _).alloc _ = w1
  rw [← hg]
  obtain ⟨r1, r2, hf⟩ := H_bx.out w1 hw1
  have k0 := row_cell r1 0
  have k1 := row_cell r1 1
  simp at k0 k1
  have H_r1 := Lib.hid r1; clear r1
  have H_r2 := Lib.hid r2; clear r2
  have H_hf := Lib.hid hf; clear hf
  have H_hw1 := Lib.hid hw1; clear hw1
  have H_hg := Lib.hid hg; clear hg
  go_wp2_with (fail)
  have hnw : ∀ W0 W, Fresh w1 W0 → Fresh (W0.alloc (.cells #[.bool false, .slice none 0 0] 110 (0, 0))) W → ZI W W0.heap.size (.slice none 0 0) 0 ∧ Fresh w1 W ∧ w1.heap.size ≤ W0.heap.size := by
    intro W0 W h0 hW
    have h1 := H_hG.out.size
    have h2 := H_hf.out.size
    have h3 := h0.size
    exact ⟨(ZI.new (heap_alloc_new W0 _) (by omega)).fresh hW, fresh_trans (h0.alloc _) hW, h3⟩
  have hset := fun c W (hW : ZI W c (.slice none 0 0) 0) (hF : Fresh w1 W) (hc : w1.heap.size ≤ c) => IntSet_z c b (.slice none 0 0) v 0 z W (Nat.lt_of_lt_of_le H_hz.out (wpow_mono (by omega))) (by have h1 := H_hf.out.size; have h2 := H_hbl.out; omega) hW (H_hx.out.fresh (fresh_trans H_hf.out hF)) (Sep.nil _)
  have ka := fun o => cell_fresh k0 ((Keep.refl (fun _ => False) w1).alloc o)
  have kb := fun o => cell_fresh k1 ((Keep.refl (fun _ => False) w1).alloc o)
  have H_k0 := Lib.hid k0
  have H_k1 := Lib.hid k1
  have H_hnw := Lib.hid hnw; clear hnw
  have H_hset := Lib.hid hset; clear hset
  go_region_held3 (fun (w' : World) => w'.cell? ⟨g, 0, none⟩ = some (.pointer (some ⟨b, 0, none⟩)) ∧ w'.cell? ⟨g, 1, none⟩ = some (.int .i32 e)) (first
    | exact ⟨k0, k1⟩ | exact ⟨j0, j1⟩ | exact ⟨n0, n1⟩
    | exact ⟨(cell?_setCell_ne (.inl (by simp))).trans ((cell?_setCell_ne (.inl (by simp))).trans n0), (cell?_setCell_ne (.inl (by simp))).trans ((cell?_setCell_ne (.inl (by simp))).trans n1)⟩
    | exact ⟨ja _, jb _⟩
    | exact ⟨ka _, kb _⟩) (first
    | (go_at_call 110; (with_reducible refine (H_hgv.out _).mono ?_); rintro r w4 ⟨rfl, x4⟩; (first | (obtain ⟨z4, f4, g4⟩ := H_hnw.out w1 w4 (Keep.refl _ _) (fresh_trans ((Keep.refl _ _).drew) x4); obtain ⟨c, hc⟩ : ∃ c, c = w1.heap.size := ⟨_, rfl⟩; rw [← hc] at z4 ⊢; have H_gc := Lib.hid (show w1.heap.size ≤ c from Nat.le_of_eq hc.symm); have H_z4 := Lib.hid z4; clear z4 g4 hc) | (have f4 : Fresh w1 w4 := (by first | exact x4 | exact x4.of_drew | exact x4.of_drewN))); have j0 := cell_fresh H_k0.out f4; have j1 := cell_fresh H_k1.out f4; have H_f4 := Lib.hid f4; clear x4 f4 ka kb; have ja := fun o => cell_fresh j0 ((Keep.refl (fun _ => False) w4).alloc o); have jb := fun o => cell_fresh j1 ((Keep.refl (fun _ => False) w4).alloc o))
    | (go_at_call 134; (first | (with_reducible refine (H_hset.out _ _ H_z4.out H_f4.out H_gc.out).mono ?_) | ((obtain ⟨z5, f5', g5⟩ := H_hnw.out w4 _ H_f4.out (Keep.refl _ _)); (obtain ⟨c, hc⟩ : ∃ c, c = w4.heap.size := ⟨_, rfl⟩); rw [← hc] at z5 g5 ⊢; clear H_f4; have H_gc := Lib.hid g5; have H_f4 := Lib.hid f5'; (with_reducible refine (H_hset.out _ _ z5 f5' g5).mono ?_); clear z5 g5 f5' hc)); rintro r w6 ⟨rfl, x6⟩; obtain ⟨v6, z6, f6, o6⟩ := x6.fresh H_f4.out H_gc.out; have n0 := cell_fresh H_k0.out f6; have n1 := cell_fresh H_k1.out f6; have d6 := row_fresh H_r2.out (fresh_trans (Keep.refl _ _) f6); have p0 := row_cell d6 0; have p1 := row_cell d6 1; simp at p0 p1; have q0 : w6.frozen? ⟨g + 1, 0, none⟩ = false := frozen_of_row _ _ _ _ _ d6; have q1 : w6.frozen? ⟨g + 1, 1, none⟩ = false := frozen_of_row _ _ _ _ _ d6; have H_d6 := Lib.hid d6; have H_z6 := Lib.hid z6; have H_f6 := Lib.hid f6; have H_o6 := Lib.hid o6; clear x6 z6 f6 o6 d6))
  all_goals
    go_wp2_with (fail)
    refine bodyPost_ret (results_cell_row rfl _ _ (g + 1) 61 #[.pointer (some ⟨c, 0, none⟩), .int .i32 e] (0, 0) _ rfl (row_set (row_set H_d6.out)) Tryz.underlying61 rfl (by kernel_rfl)) rfl ?_
    have hgw := H_hg.out
    have h1s := H_hf.out.size
    have hg3 := H_gc.out
    have hlt2 := lt_of_row H_r2.out
    have kk : ∀ u u', Keep (fun k => k = g + 1) w6 ((w6.setCell ⟨g + 1, 0, none⟩ u).setCell ⟨g + 1, 1, none⟩ u') := fun u u' => ((Keep.refl (fun k => k = g + 1) w6).setCell (p := ⟨g + 1, 0, none⟩) (fun _ => rfl) u).setCell (p := ⟨g + 1, 1, none⟩) (fun _ => rfl) u'
    exact ⟨c, v6, rfl, H_z6.out.keep (kk _ _) (fun h => by omega) (fun k hk h => by have := H_o6.out k hk; omega), Nat.le_trans h1s hg3, fun k hk => Nat.le_trans h1s (H_o6.out k hk),
      ((fresh_trans H_hf.out H_f6.out).setCell (p := ⟨g + 1, 0, none⟩) (fun h => by change g + 1 < w.heap.size at h; omega) _).setCell (p := ⟨g + 1, 1, none⟩) (fun h => by change g + 1 < w.heap.size at h; omega) _⟩

theorem rescale_anyW (b : Nat) (v : Value) (z e e' : Int) (w : World) (hG : Glob w) (hz : z.natAbs < wpow 30) (hx : ZI w b v z) (he : -400 ≤ e ∧ e ≤ 400) (he' : -400 ≤ e' ∧ e' ≤ 400) (hd : e - e' ≤ 255) (hd' : e' - e ≤ 255) :
    Calls Tryz.prog 96 #[sd b e, .int .i32 e'] w (fun r w' => ∃ b' v', r = .returned (sd b' e') ∧ ZI w' b' v' (rsZ z e e') ∧ w.heap.size ≤ b' ∧ (∀ k, v'.ownBlock = some k → w.heap.size ≤ k) ∧ Fresh w w') := by
  unfold rsZ
  rcases Int.lt_trichotomy e e' with h | h | h
  · rw [if_pos (by omega)]
    exact rescale_gtW b v z e e' w hG hz hx he he' h hd'
  · subst h
    rw [if_pos (Int.le_refl _), Int.sub_self]
    have : z.tdiv ((10 ^ (0 : Int).toNat : Nat) : Int) = z := Int.tdiv_one z
    rw [this]
    exact rescale_eqW b v z e w hG hz hx
  · rw [if_neg (by omega)]
    exact rescale_ltW b v z e e' w hG hz hx he he' h hd

end Go.Proofs.YtllencgncinphaaGreatDoor

/- shopspring: Decimal.Add: three ways, by the exponents. Printed by gen_da.py Add. -/
namespace Go.Proofs.YtllencgncinphaaGreatDoor
open Go.RowKit

/-- an Int of our own that has been set -/
theorem ZSet.own {w0 w w' : World} {b : Nat} {v0 : Value} {z : Int} (h : ZSet w b v0 z w') (hf : Fresh w0 w) (hb : w0.heap.size ≤ b) (ho : ∀ k, v0.ownBlock = some k → w0.heap.size ≤ k) : ∃ v, ZI w' b v z ∧ Fresh w0 w' ∧ (∀ k, v.ownBlock = some k → w0.heap.size ≤ k) := by
  obtain ⟨v, h1, h2, h3⟩ := h
  refine ⟨v, h1, ?_, fun k hk => ?_⟩
  · refine hf.trans h2 (fun _ _ h => h) (fun k hk h => ?_)
    rcases h with h | h
    · omega
    · have := ho k h; omega
  · rcases h3 k hk with h | h
    · exact ho k h
    · exact Nat.le_trans hf.size h

end Go.Proofs.YtllencgncinphaaGreatDoor

/- shopspring: Decimal.Sub: three ways, by the exponents. Printed by gen_da.py Sub. -/
namespace Go.Proofs.YtllencgncinphaaGreatDoor
open Go.RowKit

end Go.Proofs.YtllencgncinphaaGreatDoor

/- The contract of impl.DecAdd. Printed by gen_id.py Add. -/
namespace Go.Proofs.YtllencgncinphaaGreatDoor
open Go.RowKit

/-- a decimal of the thin package -/
abbrev dd (z e : Int) : Value := .agg #[.string (bstr (wdig z)), .int .i64 e]

end Go.Proofs.YtllencgncinphaaGreatDoor
