/- shopspring: Decimal.Floor and Decimal.Ceil. Printed by gen_flo.py. -/
import Derived.Test.YtllencgncinphaaGreatDoorKF9
import Derived.Test.YtllencgncinphaaGreatDoorKF42
import Derived.Test.YtllencgncinphaaGreatDoorKF45
namespace Go.Proofs.YtllencgncinphaaGreatDoor
open Go.RowKit
open Go.Lib (hid)

def fdZ (x y : Int) : Int := x.tdiv y - (if x.tmod y < 0 then 1 else 0)

theorem IntDiv_any (bz bx bY : Nat) (vx vy : Value) (x y : Int) (w : World) (hG : Glob w) (hlx : x.natAbs < wpow 38) (hly : y.natAbs < wpow 39) (hy0 : 0 < y) (d2 : bx ≠ bz) (d4 : bY ≠ bz)
 (hz : ZI w bz (.slice none 0 0) 0) (hx : ZI w bx vx x) (hy : ZI w bY vy y) :
 Calls Tryz.prog 109 #[.pointer (some ⟨bz, 0, none⟩), .pointer (some ⟨bx, 0, none⟩), .pointer (some ⟨bY, 0, none⟩)] w
  (fun e w' => e = .returned (.pointer (some ⟨bz, 0, none⟩)) ∧ ∃ v, ZI w' bz v (fdZ x y) ∧ Keep (fun k => k = bz) w w' ∧ (∀ k, v.ownBlock = some k → w.heap.size ≤ k)) := by
 unfold fdZ
 by_cases h : x.tmod y < 0
 · rw [if_pos h]; exact IntDiv_neg bz bx bY vx vy x y w hG hlx hly hy0 d2 d4 hz hx hy h
 · rw [if_neg h, Int.sub_zero]; exact IntDiv_pos bz bx bY vx vy x y w hG hlx hly hy0 d2 d4 hz hx hy h

theorem ten_w38 {k : Nat} (h : k ≤ 255) : ((10 ^ k : Nat) : Int).natAbs < wpow 38 := by
 rw [Int.natAbs_natCast]
 exact Nat.lt_of_lt_of_le (pow10_words14 h) (wpow_mono (by omega))

set_option maxRecDepth 20000 in
theorem Floor_as (b : Nat) (v : Value) (z e : Int) (w : World) (hx : ZI w b v z) (he : 0 ≤ e) :
 Calls Tryz.prog 69 #[sd b e] w (fun r w' => r = .returned (sd b e) ∧ ZI w' b v z ∧ Fresh w w') := by
 have c1 : decide (0 ≤ e) = true := by simpa using he
 obtain ⟨g, hg⟩ : ∃ g, g = w.heap.size := ⟨_, rfl⟩
 have bx := boxes2 w #[.pointer (some ⟨b, 0, none⟩), .int .i32 e] #[.pointer (some ⟨b, 0, none⟩), .int .i32 e] 61 61 g hg
 have H_bx := hid bx; have H_hx := hid hx; clear bx hx
 go_enter Tryz.func69, Tryz.ntmps69
 go_wp2_with (fail)
 generalize hw1 : (w.alloc _).alloc _ = w1
 rw [← hg]
 obtain ⟨b1, b2, hf⟩ := H_bx.out w1 hw1
 refine bodyPost_ret (results_cell_row rfl _ _ (g + 1) 61 #[.pointer (some ⟨b, 0, none⟩), .int .i32 e] (0, 0) _ rfl b2 Tryz.underlying61 rfl (by kernel_rfl)) rfl ?_
 exact ⟨rfl, H_hx.out.fresh hf, hf⟩

set_option maxRecDepth 20000 in
theorem Ceil_as (b : Nat) (v : Value) (z e : Int) (w : World) (hx : ZI w b v z) (he : 0 ≤ e) :
 Calls Tryz.prog 71 #[sd b e] w (fun r w' => r = .returned (sd b e) ∧ ZI w' b v z ∧ Fresh w w') := by
 have c1 : decide (0 ≤ e) = true := by simpa using he
 obtain ⟨g, hg⟩ : ∃ g, g = w.heap.size := ⟨_, rfl⟩
 have bx := boxes2 w #[.pointer (some ⟨b, 0, none⟩), .int .i32 e] #[.pointer (some ⟨b, 0, none⟩), .int .i32 e] 61 61 g hg
 have H_bx := hid bx; have H_hx := hid hx; clear bx hx
 go_enter Tryz.func71, Tryz.ntmps71
 go_wp2_with (fail)
 generalize hw1 : (w.alloc _).alloc _ = w1
 rw [← hg]
 obtain ⟨b1, b2, hf⟩ := H_bx.out w1 hw1
 refine bodyPost_ret (results_cell_row rfl _ _ (g + 1) 61 #[.pointer (some ⟨b, 0, none⟩), .int .i32 e] (0, 0) _ rfl b2 Tryz.underlying61 rfl (by kernel_rfl)) rfl ?_
 exact ⟨rfl, H_hx.out.fresh hf, hf⟩

set_option maxRecDepth 20000 in
set_option maxHeartbeats 4000000 in
theorem Floor_lt (b : Nat) (v : Value) (z e : Int) (n : Nat) (w : World) (hG : Glob w) (hz : z.natAbs < wpow 38) (hx : ZI w b v z) (hn : e = -(n : Int)) (hn0 : 0 < n) (hn1 : n ≤ 255) :
 Calls Tryz.prog 69 #[sd b e] w (fun r w' => ∃ b' v', r = .returned (sd b' 0) ∧ ZI w' b' v' (fdZ z ((10 ^ n : Nat) : Int)) ∧ Fresh w w') := by
 have hgv := fun W => getValue_any b e W
 have hpw := fun W (hW : Glob W) => pow10_all n W hW hn1
 have c1 : decide (0 ≤ e) = false := by rw [decide_eq_false_iff_not]; omega
 have c1' : ¬ 0 ≤ e := by omega
 have u1 : IntKind.i64.wrap e = e := by rw [IntKind.wrap_i64]; omega
 have u1w : wrap64 e = e := by unfold wrap64; omega
 have u2 : IntKind.i64.wrap (-e) = (n : Int) := by rw [IntKind.wrap_i64]; omega
 have u2w : wrap64 (-e) = (n : Int) := by unfold wrap64; omega
 obtain ⟨g, hg⟩ : ∃ g, g = w.heap.size := ⟨_, rfl⟩
 have bx := boxes2 w #[.pointer (some ⟨b, 0, none⟩), .int .i32 e] #[.pointer none, .int .i32 0] 61 61 g hg
 have hbl := hx.lt
 have H_bx := hid bx; have H_hgv := hid hgv; have H_hpw := hid hpw; have H_hx := hid hx; have H_hG := hid hG; have H_hz := hid hz; have H_hbl := hid hbl; have H_hn := hid hn; have H_hn0 := hid hn0; have H_hn1 := hid hn1; clear bx hgv hpw hx hG hz hbl hn hn0 hn1
 go_enter Tryz.func69, Tryz.ntmps69
 go_wp2_with (fail)
 generalize hw1 : (w.alloc _).alloc _ = w1
 rw [← hg]
 obtain ⟨r1, r2, hf⟩ := H_bx.out w1 hw1
 have k0 := row_cell r1 0
 have k1 := row_cell r1 1
 simp at k0 k1
 have H_r1 := hid r1; have H_r2 := hid r2; have H_hf := hid hf; have H_hw1 := hid hw1; have H_hg := hid hg; clear r1 r2 hf hw1 hg
 go_wp2_with (fail)
 have hnw : ∀ W0 W, Fresh w1 W0 → Fresh (W0.alloc (.cells #[.bool false, .slice none 0 0] 110 (0, 0))) W → ZI W W0.heap.size (.slice none 0 0) 0 ∧ Fresh w1 W ∧ w1.heap.size ≤ W0.heap.size := by
  intro W0 W h0 hW
  have h1 := H_hG.out.size
  have h2 := H_hf.out.size
  have h3 := h0.size
  exact ⟨(ZI.new (heap_alloc_new W0 _) (by omega)).fresh hW, fresh_trans (h0.alloc _) hW, h3⟩
 have hpw := fun W (hF : Fresh w1 W) => H_hpw.out W (H_hG.out.fresh (fresh_trans H_hf.out hF))
 have hdv := fun c bt vt W (hW : ZI W c (.slice none 0 0) 0) (hT : ZI W bt vt ((10 ^ n : Nat) : Int)) (hF : Fresh w1 W) (hc : w1.heap.size ≤ c) (hne : bt ≠ c) => IntDiv_any c b bt v vt z _ W (H_hG.out.fresh (fresh_trans H_hf.out hF)) H_hz.out (Nat.lt_of_lt_of_le (ten_w38 H_hn1.out) (wpow_mono (by omega))) (ten_posI n) (by have h1 := H_hf.out.size; have h2 := H_hbl.out; omega) hne hW (H_hx.out.fresh (fresh_trans H_hf.out hF)) hT
 have ka := fun o => cell_fresh k0 ((Keep.refl (fun _ => False) w1).alloc o)
 have kb := fun o => cell_fresh k1 ((Keep.refl (fun _ => False) w1).alloc o)
 have H_k0 := hid k0
 have H_k1 := hid k1
 clear H_hpw
 have H_hnw := hid hnw; have H_hdv := hid hdv; have H_hpw := hid hpw; clear hnw hdv hpw
 go_region_held3 (fun (w' : World) => w'.cell? ⟨g, 0, none⟩ = some (.pointer (some ⟨b, 0, none⟩)) ∧ w'.cell? ⟨g, 1, none⟩ = some (.int .i32 e)) (first
  | exact ⟨k0, k1⟩ | exact ⟨j0, j1⟩ | exact ⟨l0, l1⟩ | exact ⟨n0, n1⟩
  | exact ⟨la _, lb _⟩
  | exact ⟨ja _, jb _⟩
  | exact ⟨ka _, kb _⟩) (first
  | (go_at_call 110; (with_reducible refine (H_hgv.out _).mono ?_); rintro r w4 ⟨rfl, x4⟩; (first | (obtain ⟨z4, f4, g4⟩ := H_hnw.out w1 w4 (Keep.refl _ _) (fresh_trans ((Keep.refl _ _).drew) x4); obtain ⟨c, hc⟩ : ∃ c, c = w1.heap.size := ⟨_, rfl⟩; rw [← hc] at z4 ⊢; have H_gc := hid (show w1.heap.size ≤ c from Nat.le_of_eq hc.symm); have H_z4 := hid z4; clear z4 g4 hc) | (have f4 : Fresh w1 w4 := (by first | exact x4 | exact x4.of_drew | exact x4.of_drewN))); have j0 := cell_fresh H_k0.out f4; have j1 := cell_fresh H_k1.out f4; have H_f4 := hid f4; clear x4 f4 ka kb; have ja := fun o => cell_fresh j0 ((Keep.refl (fun _ => False) w4).alloc o); have jb := fun o => cell_fresh j1 ((Keep.refl (fun _ => False) w4).alloc o))
  | (go_at_call 111; (with_reducible refine (H_hpw.out _ ?c1).mono ?_); (case c1 => first | exact H_f4.out | exact H_f4.out.alloc _ | exact (H_f4.out.alloc _).drew | exact H_f4.out.drew); rintro r w5 ⟨bt, vt, rfl, zt, x5, gt, ot⟩; (first | (have y5 : Fresh w4 w5 := (by first | exact x5 | exact x5.of_drew | exact x5.of_drewN); have H_z5 := hid (H_z4.out.fresh y5); have f5 := fresh_trans H_f4.out y5; have H_nbt := hid (show bt ≠ c from fun e => by have h1 := H_z4.out.lt; have h2 : w4.heap.size ≤ bt := gt; omega); clear y5) | (obtain ⟨z5, f5, g5⟩ := H_hnw.out w4 w5 H_f4.out (by first | exact x5 | exact fresh_trans ((Keep.refl _ _).drew) x5); obtain ⟨c, hc⟩ : ∃ c, c = w4.heap.size := ⟨_, rfl⟩; have H_nbt := hid (show bt ≠ c from fun e => by have h2 : w4.heap.size + 1 ≤ bt := (by have := gt; simpa using this); omega); rw [← hc] at z5 g5 ⊢; have H_gc := hid g5; have H_z5 := hid z5; clear z5 g5 hc) | (have f5 : Fresh w1 w5 := fresh_trans H_f4.out (by first | exact x5 | exact x5.of_drew | exact x5.of_drewN))); have l0 := cell_fresh H_k0.out f5; have l1 := cell_fresh H_k1.out f5; have H_f5 := hid f5; have H_zt := hid zt; have H_btl := hid zt.lt; clear x5 f5 ja jb zt gt ot; have la := fun o => cell_fresh l0 ((Keep.refl (fun _ => False) w5).alloc o); have lb := fun o => cell_fresh l1 ((Keep.refl (fun _ => False) w5).alloc o))
  | (go_at_call 109; (first | (with_reducible refine (H_hdv.out _ _ _ _ H_z5.out H_zt.out H_f5.out H_gc.out H_nbt.out).mono ?_) | ((obtain ⟨z5, f5', g5⟩ := H_hnw.out w5 _ H_f5.out (Keep.refl _ _)); have zt5 := H_zt.out.fresh ((Keep.refl (fun _ => False) w5).alloc (.cells #[.bool false, .slice none 0 0] 110 (0, 0))); (obtain ⟨c, hc⟩ : ∃ c, c = w5.heap.size := ⟨_, rfl⟩); have nbt : bt ≠ c := (by have := H_btl.out; omega); rw [← hc] at z5 g5 ⊢; clear H_f5; have H_gc := hid g5; have H_f5 := hid f5'; (with_reducible refine (H_hdv.out _ _ _ _ z5 zt5 f5' g5 nbt).mono ?_); clear z5 g5 f5' hc zt5 nbt)); rintro r w6 ⟨rfl, v6, z6, k6, o6⟩; have n0 := cell_fresh H_k0.out (H_f5.out.trans k6 (U := fun _ => False) (fun _ _ h => h) (fun k hk e => by have := H_gc.out; omega)); have n1 := cell_fresh H_k1.out (H_f5.out.trans k6 (U := fun _ => False) (fun _ _ h => h) (fun k hk e => by have := H_gc.out; omega)); have H_z6 := hid z6; have H_f6 := hid (H_f5.out.trans k6 (U := fun _ => False) (fun _ _ h => h) (fun k hk e => by have := H_gc.out; omega)); have H_o6 := hid (fun k hk => Nat.le_trans H_f5.out.size (o6 k hk)); clear z6 k6 o6))
 all_goals
  have d6 := row_fresh H_r2.out H_f6.out
  have p0 := row_cell d6 0
  have p1 := row_cell d6 1
  simp at p0 p1
  have q0 : w6.frozen? ⟨g + 1, 0, none⟩ = false := frozen_of_row _ _ _ _ _ d6
  have q1 : w6.frozen? ⟨g + 1, 1, none⟩ = false := frozen_of_row _ _ _ _ _ d6
  have H_d6 := hid d6; clear d6
  go_wp2_with (fail)
  refine bodyPost_ret (results_cell_row rfl _ _ (g + 1) 61 #[.pointer (some ⟨c, 0, none⟩), .int .i32 0] (0, 0) _ rfl (row_set (row_set H_d6.out)) Tryz.underlying61 rfl (by kernel_rfl)) rfl ?_
  have hgw := H_hg.out
  have h1s := H_hf.out.size
  have hg3 := H_gc.out
  have hlt2 := lt_of_row H_r2.out
  have kk : ∀ u u', Keep (fun k => k = g + 1) w6 ((w6.setCell ⟨g + 1, 0, none⟩ u).setCell ⟨g + 1, 1, none⟩ u') := fun u u' => ((Keep.refl (fun k => k = g + 1) w6).setCell (p := ⟨g + 1, 0, none⟩) (fun _ => rfl) u).setCell (p := ⟨g + 1, 1, none⟩) (fun _ => rfl) u'
  exact ⟨c, v6, rfl, H_z6.out.keep (kk _ _) (fun h => by omega) (fun k hk h => by have := H_o6.out k hk; omega),
   ((fresh_trans H_hf.out H_f6.out).setCell (p := ⟨g + 1, 0, none⟩) (fun h => by change g + 1 < w.heap.size at h; omega) _).setCell (p := ⟨g + 1, 1, none⟩) (fun h => by change g + 1 < w.heap.size at h; omega) _⟩

def fmZ (x y : Int) : Int := if x.tmod y < 0 then x.tmod y + y else x.tmod y

theorem IntDivMod_any (bz bx bY bm : Nat) (vx vy : Value) (x y : Int) (w : World) (hG : Glob w) (hlx : x.natAbs < wpow 38) (hly : y.natAbs < wpow 38) (hy0 : 0 < y) (d1 : bz ≠ bm) (d2 : bx ≠ bz) (d3 : bx ≠ bm) (d4 : bY ≠ bz) (d5 : bY ≠ bm)
 (hz : ZI w bz (.slice none 0 0) 0) (hx : ZI w bx vx x) (hy : ZI w bY vy y) (hm : ZI w bm (.slice none 0 0) 0) :
 Calls Tryz.prog 112 #[.pointer (some ⟨bz, 0, none⟩), .pointer (some ⟨bx, 0, none⟩), .pointer (some ⟨bY, 0, none⟩), .pointer (some ⟨bm, 0, none⟩)] w
  (fun e w' => e = .returned (.tuple #[.pointer (some ⟨bz, 0, none⟩), .pointer (some ⟨bm, 0, none⟩)]) ∧ ∃ v u, ZI w' bz v (fdZ x y) ∧ ZI w' bm u (fmZ x y) ∧ Keep (fun k => k = bz ∨ k = bm) w w' ∧ (∀ k, v.ownBlock = some k → w.heap.size ≤ k)) := by
 unfold fdZ fmZ
 by_cases h : x.tmod y < 0
 · rw [if_pos h, if_pos h]; exact IntDivMod_neg bz bx bY bm vx vy x y w hG hlx hly hy0 d1 d2 d3 d4 d5 hz hx hy hm h
 · rw [if_neg h, if_neg h, Int.sub_zero]; exact IntDivMod_pos bz bx bY bm vx vy x y w hG hlx hly hy0 d1 d2 d3 d4 d5 hz hx hy hm h

set_option maxRecDepth 20000 in
set_option maxHeartbeats 8000000 in
theorem Ceil_ex (b : Nat) (v : Value) (z e : Int) (n : Nat) (w : World) (hG : Glob w) (hz : z.natAbs < wpow 38) (hx : ZI w b v z) (hn : e = -(n : Int)) (hn0 : 0 < n) (hn1 : n ≤ 255) (hM : fmZ z ((10 ^ n : Nat) : Int) = 0) :
 Calls Tryz.prog 71 #[sd b e] w (fun r w' => ∃ b' v', r = .returned (sd b' 0) ∧ ZI w' b' v' (fdZ z ((10 ^ n : Nat) : Int)) ∧ Fresh w w') := by
 have hgv := fun W => getValue_any b e W
 have hpw := fun W (hW : Glob W) => pow10_all n W hW hn1
 have c1 : decide (0 ≤ e) = false := by rw [decide_eq_false_iff_not]; omega
 have c1' : ¬ 0 ≤ e := by omega
 have u1 : IntKind.i64.wrap e = e := by rw [IntKind.wrap_i64]; omega
 have u1w : wrap64 e = e := by unfold wrap64; omega
 have u2 : IntKind.i64.wrap (-e) = (n : Int) := by rw [IntKind.wrap_i64]; omega
 have u2w : wrap64 (-e) = (n : Int) := by unfold wrap64; omega
 have hQl : (fdZ z ((10 ^ n : Nat) : Int)).natAbs < wpow 39 := by
  have h1 : (z.tdiv ((10 ^ n : Nat) : Int)).natAbs < wpow 38 := by rw [Int.natAbs_tdiv]; exact Nat.lt_of_le_of_lt (Nat.div_le_self _ _) hz
  have h2 : wpow 39 = 18446744073709551616 * wpow 38 := wpow_succ 38
  have h3 := wpow_pos 38
  unfold fdZ
  generalize z.tdiv ((10 ^ n : Nat) : Int) = A at *
  generalize wpow 38 = K at *
  split <;> omega
 obtain ⟨M, hMM⟩ : ∃ M, M = fmZ z ((10 ^ n : Nat) : Int) := ⟨_, rfl⟩
 obtain ⟨Q, hQQ⟩ : ∃ Q, Q = fdZ z ((10 ^ n : Nat) : Int) := ⟨_, rfl⟩
 rw [← hMM] at hM
 rw [← hQQ] at hQl
 rw [← hQQ]
 obtain ⟨sg, hsg⟩ : ∃ sg, sg = (if M = 0 then (0 : Int) else if M < 0 then -1 else 1) := ⟨_, rfl⟩
 have c5 : (sg == 0) = true := by rw [hsg, if_pos hM]; rfl
 have hone := fun W (hW : NG ≤ W.heap.size) => oneInt_any W hW
 obtain ⟨g, hg⟩ : ∃ g, g = w.heap.size := ⟨_, rfl⟩
 have bx := boxes2 w #[.pointer (some ⟨b, 0, none⟩), .int .i32 e] #[.pointer none, .int .i32 0] 61 61 g hg
 have hbl := hx.lt
 have H_bx := hid bx; have H_hgv := hid hgv; have H_hpw := hid hpw; have H_hx := hid hx; have H_hG := hid hG; have H_hz := hid hz; have H_hbl := hid hbl; have H_hn := hid hn; have H_hn0 := hid hn0; have H_hn1 := hid hn1; have H_hM := hid hM; have H_hMM := hid hMM; have H_hQQ := hid hQQ; have H_hsg := hid hsg; have H_hQl := hid hQl; have H_hone := hid hone; clear bx hgv hpw hx hG hz hbl hn hn0 hn1 hM hMM hQQ hsg hQl hone
 go_enter Tryz.func71, Tryz.ntmps71
 go_wp2_with (fail)
 generalize hw1 : (w.alloc _).alloc _ = w1
 rw [← hg]
 obtain ⟨r1, r2, hf⟩ := H_bx.out w1 hw1
 have k0 := row_cell r1 0
 have k1 := row_cell r1 1
 simp at k0 k1
 have H_r1 := hid r1; have H_r2 := hid r2; have H_hf := hid hf; have H_hw1 := hid hw1; have H_hg := hid hg; clear r1 r2 hf hw1 hg
 go_wp2_with (fail)
 have hnw : ∀ W0 W, Fresh w1 W0 → Fresh (W0.alloc (.cells #[.bool false, .slice none 0 0] 110 (0, 0))) W → ZI W W0.heap.size (.slice none 0 0) 0 ∧ Fresh w1 W ∧ w1.heap.size ≤ W0.heap.size := by
  intro W0 W h0 hW
  have h1 := H_hG.out.size
  have h2 := H_hf.out.size
  have h3 := h0.size
  exact ⟨(ZI.new (heap_alloc_new W0 _) (by omega)).fresh hW, fresh_trans (h0.alloc _) hW, h3⟩
 have hpw := fun W (hF : Fresh w1 W) => H_hpw.out W (H_hG.out.fresh (fresh_trans H_hf.out hF))
 have hnw2 : ∀ W0 W, Fresh w1 W0 → Fresh ((W0.alloc (.cells #[.bool false, .slice none 0 0] 110 (0, 0))).alloc (.cells #[.bool false, .slice none 0 0] 110 (0, 0))) W → ZI W W0.heap.size (.slice none 0 0) 0 ∧ ZI W (W0.heap.size + 1) (.slice none 0 0) 0 ∧ Fresh w1 W ∧ w1.heap.size ≤ W0.heap.size := by
  intro W0 W h0 hW
  have h1 := H_hG.out.size
  have h2 := H_hf.out.size
  have h3 := h0.size
  have e := heap_alloc_new (W0.alloc (.cells #[.bool false, .slice none 0 0] 110 (0, 0))) (.cells #[.bool false, .slice none 0 0] 110 (0, 0))
  rw [show (W0.alloc (.cells #[.bool false, .slice none 0 0] 110 (0, 0))).heap.size = W0.heap.size + 1 by simp] at e
  exact ⟨((ZI.new (heap_alloc_new W0 _) (by omega)).fresh ((Keep.refl _ _).alloc _)).fresh hW, (ZI.new e (by omega)).fresh hW, fresh_trans ((h0.alloc _).alloc _) hW, h3⟩
 have hdm : ∀ c d bt vt W, ZI W c (.slice none 0 0) 0 → ZI W d (.slice none 0 0) 0 → ZI W bt vt ((10 ^ n : Nat) : Int) → Fresh w1 W → w1.heap.size ≤ c → w1.heap.size ≤ d → c ≠ d → bt ≠ c → bt ≠ d →
  Calls Tryz.prog 112 #[.pointer (some ⟨c, 0, none⟩), .pointer (some ⟨b, 0, none⟩), .pointer (some ⟨bt, 0, none⟩), .pointer (some ⟨d, 0, none⟩)] W
   (fun e w' => e = .returned (.tuple #[.pointer (some ⟨c, 0, none⟩), .pointer (some ⟨d, 0, none⟩)]) ∧ ∃ v u, ZI w' c v Q ∧ ZI w' d u M ∧ Fresh w1 w' ∧ (∀ k, v.ownBlock = some k → w1.heap.size ≤ k) ∧ w1.heap.size ≤ c) := by
  intro c d bt vt W hW hD hT hF hc hd hcd h1 h2
  have h3 := H_hf.out.size
  have h4 := H_hbl.out
  refine (IntDivMod_any c b bt d v vt z _ W (H_hG.out.fresh (fresh_trans H_hf.out hF)) H_hz.out (ten_w38 H_hn1.out) (ten_posI n) hcd (by omega) (by omega) h1 h2 hW (H_hx.out.fresh (fresh_trans H_hf.out hF)) hT hD).mono ?_
  rintro e w' ⟨rfl, v, u, k1, k2, k3, k4⟩
  rw [H_hQQ.out, H_hMM.out]
  exact ⟨rfl, v, u, k1, k2, hF.trans k3 (fun _ _ h => h) (fun k hk e => e.elim (fun e => by omega) (fun e => by omega)), fun k hk => Nat.le_trans hF.size (k4 k hk), hc⟩
 have ka := fun o => cell_fresh k0 ((Keep.refl (fun _ => False) w1).alloc o)
 have kb := fun o => cell_fresh k1 ((Keep.refl (fun _ => False) w1).alloc o)
 have kaa := fun o o' => cell_fresh k0 (((Keep.refl (fun _ => False) w1).alloc o).alloc o')
 have kbb := fun o o' => cell_fresh k1 (((Keep.refl (fun _ => False) w1).alloc o).alloc o')
 have H_k0 := hid k0
 have H_k1 := hid k1
 clear H_hpw
 have H_hnw := hid hnw; have H_hnw2 := hid hnw2; have H_hdm := hid hdm; have H_hpw := hid hpw; clear hnw hnw2 hdm hpw
 go_region_held3 (fun (w' : World) => w'.cell? ⟨g, 0, none⟩ = some (.pointer (some ⟨b, 0, none⟩)) ∧ w'.cell? ⟨g, 1, none⟩ = some (.int .i32 e)) (first
  | exact ⟨k0, k1⟩ | exact ⟨j0, j1⟩ | exact ⟨l0, l1⟩ | exact ⟨n0, n1⟩
  | exact ⟨laa _ _, lbb _ _⟩ | exact ⟨la _, lb _⟩
  | exact ⟨jaa _ _, jbb _ _⟩ | exact ⟨ja _, jb _⟩
  | exact ⟨kaa _ _, kbb _ _⟩ | exact ⟨ka _, kb _⟩) (first
  | (go_at_call 110; (with_reducible refine (H_hgv.out _).mono ?_); rintro r w4 ⟨rfl, x4⟩; (first
    | (obtain ⟨za, zb, f4, g4⟩ := H_hnw2.out w1 w4 (Keep.refl _ _) (fresh_trans ((Keep.refl _ _).drew) x4); obtain ⟨ca, hc⟩ : ∃ c, c = w1.heap.size := ⟨_, rfl⟩; obtain ⟨cb, hcb⟩ : ∃ c, c = ca + 1 := ⟨_, rfl⟩; rw [← hc, ← hcb] at zb; rw [← hc] at za; rw [← hc, ← hcb]; have H_ga := hid (show w1.heap.size ≤ ca by omega); have H_gb := hid (show w1.heap.size ≤ cb by omega); have H_nab := hid (show ca ≠ cb by omega); have H_za4 := hid za; have H_zb4 := hid zb; clear za zb g4 hc hcb)
    | (obtain ⟨za, f4, g4⟩ := H_hnw.out w1 w4 (Keep.refl _ _) (fresh_trans ((Keep.refl _ _).drew) x4); obtain ⟨ca, hc⟩ : ∃ c, c = w1.heap.size := ⟨_, rfl⟩; rw [← hc] at za ⊢; have H_ga := hid (show w1.heap.size ≤ ca by omega); have H_za4 := hid za; clear za g4 hc)
    | (have f4 : Fresh w1 w4 := (by first | exact x4 | exact x4.of_drew | exact x4.of_drewN))); have j0 := cell_fresh H_k0.out f4; have j1 := cell_fresh H_k1.out f4; have H_f4 := hid f4; clear x4 f4 ka kb kaa kbb; have ja := fun o => cell_fresh j0 ((Keep.refl (fun _ => False) w4).alloc o); have jb := fun o => cell_fresh j1 ((Keep.refl (fun _ => False) w4).alloc o); have jaa := fun o o' => cell_fresh j0 (((Keep.refl (fun _ => False) w4).alloc o).alloc o'); have jbb := fun o o' => cell_fresh j1 (((Keep.refl (fun _ => False) w4).alloc o).alloc o'))
  | (go_at_call 111; (with_reducible refine (H_hpw.out _ ?c1).mono ?_); (case c1 => first | exact H_f4.out | exact H_f4.out.alloc _ | exact (H_f4.out.alloc _).alloc _); rintro r w5 ⟨bt, vt, rfl, zt, x5, gt, ot⟩; (first
    | (have y5 : Fresh w4 w5 := x5; have H_za5 := hid (H_za4.out.fresh y5); have H_zb5 := hid (H_zb4.out.fresh y5); have f5 := fresh_trans H_f4.out y5; have H_nta := hid (show bt ≠ ca from fun e => by have h1 := H_za4.out.lt; have h2 : w4.heap.size ≤ bt := gt; omega); have H_ntb := hid (show bt ≠ cb from fun e => by have h1 := H_zb4.out.lt; have h2 : w4.heap.size ≤ bt := gt; omega); clear y5)
    | (have y5 : Fresh w4 w5 := x5; have H_za5 := hid (H_za4.out.fresh y5); have f5 := fresh_trans H_f4.out y5; have H_nta := hid (show bt ≠ ca from fun e => by have h1 := H_za4.out.lt; have h2 : w4.heap.size ≤ bt := gt; omega); clear y5)
    | (have H_za5 := hid (H_za4.out.fresh (fresh_trans ((Keep.refl (fun _ => False) w4).alloc (.cells #[.bool false, .slice none 0 0] 110 (0, 0))) x5)); obtain ⟨zb, f5, g5⟩ := H_hnw.out w4 w5 H_f4.out x5; have H_nta := hid (show bt ≠ ca from fun e => by have h1 := H_za4.out.lt; have h2 : w4.heap.size + 1 ≤ bt := (by have := gt; simpa using this); omega); obtain ⟨cb, hd⟩ : ∃ d, d = w4.heap.size := ⟨_, rfl⟩; have H_ntb := hid (show bt ≠ cb from fun e => by have h2 : w4.heap.size + 1 ≤ bt := (by have := gt; simpa using this); omega); have H_nab := hid (show ca ≠ cb from fun e => by have h1 := H_za4.out.lt; omega); rw [← hd] at zb g5 ⊢; have H_gb := hid g5; have H_zb5 := hid zb; clear zb g5 hd)
    | (obtain ⟨za, zb, f5, g5⟩ := H_hnw2.out w4 w5 H_f4.out x5; obtain ⟨ca, hc⟩ : ∃ c, c = w4.heap.size := ⟨_, rfl⟩; obtain ⟨cb, hcb⟩ : ∃ c, c = ca + 1 := ⟨_, rfl⟩; have hbt : ca + 2 ≤ bt := (by have h2 : w4.heap.size + 1 + 1 ≤ bt := (by have := gt; simpa using this); omega); rw [← hc, ← hcb] at zb; rw [← hc] at za g5; rw [← hc, ← hcb]; have H_ga := hid g5; have H_gb := hid (show w1.heap.size ≤ cb by omega); have H_nab := hid (show ca ≠ cb by omega); have H_nta := hid (show bt ≠ ca by omega); have H_ntb := hid (show bt ≠ cb by omega); have H_za5 := hid za; have H_zb5 := hid zb; clear za zb g5 hc hcb hbt)
    | (obtain ⟨za, f5, g5⟩ := H_hnw.out w4 w5 H_f4.out x5; obtain ⟨ca, hc⟩ : ∃ c, c = w4.heap.size := ⟨_, rfl⟩; have H_nta := hid (show bt ≠ ca from fun e => by have h2 : w4.heap.size + 1 ≤ bt := (by have := gt; simpa using this); omega); rw [← hc] at za g5 ⊢; have H_ga := hid g5; have H_za5 := hid za; clear za g5 hc)
    | (have f5 : Fresh w1 w5 := fresh_trans H_f4.out x5)); have l0 := cell_fresh H_k0.out f5; have l1 := cell_fresh H_k1.out f5; have H_f5 := hid f5; have H_btl := hid zt.lt; have H_zt := hid zt; clear x5 f5 ja jb jaa jbb zt gt ot; have la := fun o => cell_fresh l0 ((Keep.refl (fun _ => False) w5).alloc o); have lb := fun o => cell_fresh l1 ((Keep.refl (fun _ => False) w5).alloc o); have laa := fun o o' => cell_fresh l0 (((Keep.refl (fun _ => False) w5).alloc o).alloc o'); have lbb := fun o o' => cell_fresh l1 (((Keep.refl (fun _ => False) w5).alloc o).alloc o'))
  | (go_at_call 112; (first
    | (with_reducible refine (H_hdm.out _ _ _ _ _ H_za5.out H_zb5.out H_zt.out H_f5.out H_ga.out H_gb.out H_nab.out H_nta.out H_ntb.out).mono ?_)
    | (with_reducible refine (H_hdm.out _ _ _ _ _ H_zb5.out H_za5.out H_zt.out H_f5.out H_gb.out H_ga.out (Ne.symm H_nab.out) H_ntb.out H_nta.out).mono ?_)
    | ((have za := H_za5.out.fresh ((Keep.refl (fun _ => False) w5).alloc (.cells #[.bool false, .slice none 0 0] 110 (0, 0)))); (have zt5 := H_zt.out.fresh ((Keep.refl (fun _ => False) w5).alloc (.cells #[.bool false, .slice none 0 0] 110 (0, 0)))); (obtain ⟨zb, f5', g5⟩ := H_hnw.out w5 _ H_f5.out (Keep.refl _ _)); (obtain ⟨cb, hd⟩ : ∃ d, d = w5.heap.size := ⟨_, rfl⟩); have ntb : bt ≠ cb := (by have := H_btl.out; omega); have nab : ca ≠ cb := (fun e => by have h1 := H_za5.out.lt; omega); rw [← hd] at zb g5 ⊢; (first | (with_reducible refine (H_hdm.out _ _ _ _ _ za zb zt5 f5' H_ga.out g5 nab H_nta.out ntb).mono ?_) | (with_reducible refine (H_hdm.out _ _ _ _ _ zb za zt5 f5' g5 H_ga.out (Ne.symm nab) ntb H_nta.out).mono ?_)); clear za zb zt5 f5' g5 ntb nab hd)
    | ((have zt5 := H_zt.out.fresh (((Keep.refl (fun _ => False) w5).alloc (.cells #[.bool false, .slice none 0 0] 110 (0, 0))).alloc (.cells #[.bool false, .slice none 0 0] 110 (0, 0)))); (obtain ⟨za, zb, f5', g5⟩ := H_hnw2.out w5 _ H_f5.out (Keep.refl _ _)); (obtain ⟨ca, hc⟩ : ∃ c, c = w5.heap.size := ⟨_, rfl⟩); (obtain ⟨cb, hcb⟩ : ∃ c, c = ca + 1 := ⟨_, rfl⟩); have nta : bt ≠ ca := (by have := H_btl.out; omega); have ntb : bt ≠ cb := (by have := H_btl.out; omega); rw [← hc, ← hcb] at zb; rw [← hc] at za g5; rw [← hc, ← hcb]; (first | (with_reducible refine (H_hdm.out _ _ _ _ _ za zb zt5 f5' g5 (by omega) (by omega) nta ntb).mono ?_) | (with_reducible refine (H_hdm.out _ _ _ _ _ zb za zt5 f5' (by omega) g5 (by omega) ntb nta).mono ?_)); clear za zb zt5 f5' g5 nta ntb hc hcb)); rintro r w6 ⟨rfl, v6, u6, z6, m6, f6, o6, g6⟩; have n0 := cell_fresh H_k0.out f6; have n1 := cell_fresh H_k1.out f6; have H_z6 := hid z6; have H_m6 := hid m6; have H_f6 := hid f6; have H_o6 := hid o6; have H_g6 := hid g6; clear z6 m6 f6 o6 g6))
 all_goals
  have hs6 := IntSign_z _ _ _ _ H_m6.out
  rw [← H_hsg.out] at hs6
  have d6 := row_fresh H_r2.out H_f6.out
  have H_hs6 := hid hs6
  clear hs6
  have H_d6 := hid d6
  clear d6
  go_wp2_with (fail)
  refine H_hs6.out.mono ?_
  rintro r w7 ⟨rfl, hw7⟩
  obtain rfl : w6 = w7 := hw7.symm
  have z9 := H_z6.out
  have f9 := H_f6.out
  have o9' := H_o6.out
  obtain ⟨w9, hw9⟩ : ∃ w9, w6 = w9 := ⟨_, rfl⟩
  obtain ⟨v9, hv9⟩ : ∃ v9, v6 = v9 := ⟨_, rfl⟩
  rw [hw9, hv9] at z9
  rw [hw9] at f9
  rw [hv9] at o9'
  rw [hw9]
  have d9 := row_fresh H_r2.out f9
  have p0 := row_cell d9 0
  have p1 := row_cell d9 1
  simp at p0 p1
  have q0 : w9.frozen? ⟨g + 1, 0, none⟩ = false := frozen_of_row _ _ _ _ _ d9
  have q1 : w9.frozen? ⟨g + 1, 1, none⟩ = false := frozen_of_row _ _ _ _ _ d9
  have H_d9 := hid d9
  have H_z9 := hid z9
  have H_f9 := hid f9
  have H_o9 := hid o9'
  clear d9 z9 f9 o9'
  go_wp2_with (fail)
  refine bodyPost_ret (results_cell_row rfl _ _ (g + 1) 61 #[.pointer (some ⟨_, 0, none⟩), .int .i32 0] (0, 0) _ rfl (row_set (row_set H_d9.out)) Tryz.underlying61 rfl (by kernel_rfl)) rfl ?_
  have hgw := H_hg.out
  have h1s := H_hf.out.size
  have hg3 := H_g6.out
  have hlt2 := lt_of_row H_r2.out
  have kk : ∀ u u', Keep (fun k => k = g + 1) w9 ((w9.setCell ⟨g + 1, 0, none⟩ u).setCell ⟨g + 1, 1, none⟩ u') := fun u u' => ((Keep.refl (fun k => k = g + 1) w9).setCell (p := ⟨g + 1, 0, none⟩) (fun _ => rfl) u).setCell (p := ⟨g + 1, 1, none⟩) (fun _ => rfl) u'
  exact ⟨_, v9, rfl, H_z9.out.keep (kk _ _) (fun h => by omega) (fun k hk h => by have := H_o9.out k hk; omega),
   ((fresh_trans H_hf.out H_f9.out).setCell (p := ⟨g + 1, 0, none⟩) (fun h => by change g + 1 < w.heap.size at h; omega) _).setCell (p := ⟨g + 1, 1, none⟩) (fun h => by change g + 1 < w.heap.size at h; omega) _⟩

set_option maxRecDepth 20000 in
set_option maxHeartbeats 8000000 in
theorem Ceil_up (b : Nat) (v : Value) (z e : Int) (n : Nat) (w : World) (hG : Glob w) (hz : z.natAbs < wpow 38) (hx : ZI w b v z) (hn : e = -(n : Int)) (hn0 : 0 < n) (hn1 : n ≤ 255) (hM : fmZ z ((10 ^ n : Nat) : Int) ≠ 0) :
 Calls Tryz.prog 71 #[sd b e] w (fun r w' => ∃ b' v', r = .returned (sd b' 0) ∧ ZI w' b' v' (fdZ z ((10 ^ n : Nat) : Int) + 1) ∧ Fresh w w') := by
 have hgv := fun W => getValue_any b e W
 have hpw := fun W (hW : Glob W) => pow10_all n W hW hn1
 have c1 : decide (0 ≤ e) = false := by rw [decide_eq_false_iff_not]; omega
 have c1' : ¬ 0 ≤ e := by omega
 have u1 : IntKind.i64.wrap e = e := by rw [IntKind.wrap_i64]; omega
 have u1w : wrap64 e = e := by unfold wrap64; omega
 have u2 : IntKind.i64.wrap (-e) = (n : Int) := by rw [IntKind.wrap_i64]; omega
 have u2w : wrap64 (-e) = (n : Int) := by unfold wrap64; omega
 have hQl : (fdZ z ((10 ^ n : Nat) : Int)).natAbs < wpow 39 := by
  have h1 : (z.tdiv ((10 ^ n : Nat) : Int)).natAbs < wpow 38 := by rw [Int.natAbs_tdiv]; exact Nat.lt_of_le_of_lt (Nat.div_le_self _ _) hz
  have h2 : wpow 39 = 18446744073709551616 * wpow 38 := wpow_succ 38
  have h3 := wpow_pos 38
  unfold fdZ
  generalize z.tdiv ((10 ^ n : Nat) : Int) = A at *
  generalize wpow 38 = K at *
  split <;> omega
 obtain ⟨M, hMM⟩ : ∃ M, M = fmZ z ((10 ^ n : Nat) : Int) := ⟨_, rfl⟩
 obtain ⟨Q, hQQ⟩ : ∃ Q, Q = fdZ z ((10 ^ n : Nat) : Int) := ⟨_, rfl⟩
 rw [← hMM] at hM
 rw [← hQQ] at hQl
 rw [← hQQ]
 obtain ⟨sg, hsg⟩ : ∃ sg, sg = (if M = 0 then (0 : Int) else if M < 0 then -1 else 1) := ⟨_, rfl⟩
 have c5' : ¬ sg = 0 := by rw [hsg, if_neg hM]; split <;> omega
 have c5 : (sg == 0) = false := by rw [beq_eq_false_iff_ne]; exact c5'
 have hone := fun W (hW : NG ≤ W.heap.size) => oneInt_any W hW
 obtain ⟨g, hg⟩ : ∃ g, g = w.heap.size := ⟨_, rfl⟩
 have bx := boxes2 w #[.pointer (some ⟨b, 0, none⟩), .int .i32 e] #[.pointer none, .int .i32 0] 61 61 g hg
 have hbl := hx.lt
 have H_bx := hid bx; have H_hgv := hid hgv; have H_hpw := hid hpw; have H_hx := hid hx; have H_hG := hid hG; have H_hz := hid hz; have H_hbl := hid hbl; have H_hn := hid hn; have H_hn0 := hid hn0; have H_hn1 := hid hn1; have H_hM := hid hM; have H_hMM := hid hMM; have H_hQQ := hid hQQ; have H_hsg := hid hsg; have H_hQl := hid hQl; have H_hone := hid hone; clear bx hgv hpw hx hG hz hbl hn hn0 hn1 hM hMM hQQ hsg hQl hone
 go_enter Tryz.func71, Tryz.ntmps71
 go_wp2_with (fail)
 generalize hw1 : (w.alloc _).alloc _ = w1
 rw [← hg]
 obtain ⟨r1, r2, hf⟩ := H_bx.out w1 hw1
 have k0 := row_cell r1 0
 have k1 := row_cell r1 1
 simp at k0 k1
 have H_r1 := hid r1; have H_r2 := hid r2; have H_hf := hid hf; have H_hw1 := hid hw1; have H_hg := hid hg; clear r1 r2 hf hw1 hg
 go_wp2_with (fail)
 have hnw : ∀ W0 W, Fresh w1 W0 → Fresh (W0.alloc (.cells #[.bool false, .slice none 0 0] 110 (0, 0))) W → ZI W W0.heap.size (.slice none 0 0) 0 ∧ Fresh w1 W ∧ w1.heap.size ≤ W0.heap.size := by
  intro W0 W h0 hW
  have h1 := H_hG.out.size
  have h2 := H_hf.out.size
  have h3 := h0.size
  exact ⟨(ZI.new (heap_alloc_new W0 _) (by omega)).fresh hW, fresh_trans (h0.alloc _) hW, h3⟩
 have hpw := fun W (hF : Fresh w1 W) => H_hpw.out W (H_hG.out.fresh (fresh_trans H_hf.out hF))
 have hnw2 : ∀ W0 W, Fresh w1 W0 → Fresh ((W0.alloc (.cells #[.bool false, .slice none 0 0] 110 (0, 0))).alloc (.cells #[.bool false, .slice none 0 0] 110 (0, 0))) W → ZI W W0.heap.size (.slice none 0 0) 0 ∧ ZI W (W0.heap.size + 1) (.slice none 0 0) 0 ∧ Fresh w1 W ∧ w1.heap.size ≤ W0.heap.size := by
  intro W0 W h0 hW
  have h1 := H_hG.out.size
  have h2 := H_hf.out.size
  have h3 := h0.size
  have e := heap_alloc_new (W0.alloc (.cells #[.bool false, .slice none 0 0] 110 (0, 0))) (.cells #[.bool false, .slice none 0 0] 110 (0, 0))
  rw [show (W0.alloc (.cells #[.bool false, .slice none 0 0] 110 (0, 0))).heap.size = W0.heap.size + 1 by simp] at e
  exact ⟨((ZI.new (heap_alloc_new W0 _) (by omega)).fresh ((Keep.refl _ _).alloc _)).fresh hW, (ZI.new e (by omega)).fresh hW, fresh_trans ((h0.alloc _).alloc _) hW, h3⟩
 have hdm : ∀ c d bt vt W, ZI W c (.slice none 0 0) 0 → ZI W d (.slice none 0 0) 0 → ZI W bt vt ((10 ^ n : Nat) : Int) → Fresh w1 W → w1.heap.size ≤ c → w1.heap.size ≤ d → c ≠ d → bt ≠ c → bt ≠ d →
  Calls Tryz.prog 112 #[.pointer (some ⟨c, 0, none⟩), .pointer (some ⟨b, 0, none⟩), .pointer (some ⟨bt, 0, none⟩), .pointer (some ⟨d, 0, none⟩)] W
   (fun e w' => e = .returned (.tuple #[.pointer (some ⟨c, 0, none⟩), .pointer (some ⟨d, 0, none⟩)]) ∧ ∃ v u, ZI w' c v Q ∧ ZI w' d u M ∧ Fresh w1 w' ∧ (∀ k, v.ownBlock = some k → w1.heap.size ≤ k) ∧ w1.heap.size ≤ c) := by
  intro c d bt vt W hW hD hT hF hc hd hcd h1 h2
  have h3 := H_hf.out.size
  have h4 := H_hbl.out
  refine (IntDivMod_any c b bt d v vt z _ W (H_hG.out.fresh (fresh_trans H_hf.out hF)) H_hz.out (ten_w38 H_hn1.out) (ten_posI n) hcd (by omega) (by omega) h1 h2 hW (H_hx.out.fresh (fresh_trans H_hf.out hF)) hT hD).mono ?_
  rintro e w' ⟨rfl, v, u, k1, k2, k3, k4⟩
  rw [H_hQQ.out, H_hMM.out]
  exact ⟨rfl, v, u, k1, k2, hF.trans k3 (fun _ _ h => h) (fun k hk e => e.elim (fun e => by omega) (fun e => by omega)), fun k hk => Nat.le_trans hF.size (k4 k hk), hc⟩
 have ka := fun o => cell_fresh k0 ((Keep.refl (fun _ => False) w1).alloc o)
 have kb := fun o => cell_fresh k1 ((Keep.refl (fun _ => False) w1).alloc o)
 have kaa := fun o o' => cell_fresh k0 (((Keep.refl (fun _ => False) w1).alloc o).alloc o')
 have kbb := fun o o' => cell_fresh k1 (((Keep.refl (fun _ => False) w1).alloc o).alloc o')
 have H_k0 := hid k0
 have H_k1 := hid k1
 clear H_hpw
 have H_hnw := hid hnw; have H_hnw2 := hid hnw2; have H_hdm := hid hdm; have H_hpw := hid hpw; clear hnw hnw2 hdm hpw
 go_region_held3 (fun (w' : World) => w'.cell? ⟨g, 0, none⟩ = some (.pointer (some ⟨b, 0, none⟩)) ∧ w'.cell? ⟨g, 1, none⟩ = some (.int .i32 e)) (first
  | exact ⟨k0, k1⟩ | exact ⟨j0, j1⟩ | exact ⟨l0, l1⟩ | exact ⟨n0, n1⟩
  | exact ⟨laa _ _, lbb _ _⟩ | exact ⟨la _, lb _⟩
  | exact ⟨jaa _ _, jbb _ _⟩ | exact ⟨ja _, jb _⟩
  | exact ⟨kaa _ _, kbb _ _⟩ | exact ⟨ka _, kb _⟩) (first
  | (go_at_call 110; (with_reducible refine (H_hgv.out _).mono ?_); rintro r w4 ⟨rfl, x4⟩; (first
    | (obtain ⟨za, zb, f4, g4⟩ := H_hnw2.out w1 w4 (Keep.refl _ _) (fresh_trans ((Keep.refl _ _).drew) x4); obtain ⟨ca, hc⟩ : ∃ c, c = w1.heap.size := ⟨_, rfl⟩; obtain ⟨cb, hcb⟩ : ∃ c, c = ca + 1 := ⟨_, rfl⟩; rw [← hc, ← hcb] at zb; rw [← hc] at za; rw [← hc, ← hcb]; have H_ga := hid (show w1.heap.size ≤ ca by omega); have H_gb := hid (show w1.heap.size ≤ cb by omega); have H_nab := hid (show ca ≠ cb by omega); have H_za4 := hid za; have H_zb4 := hid zb; clear za zb g4 hc hcb)
    | (obtain ⟨za, f4, g4⟩ := H_hnw.out w1 w4 (Keep.refl _ _) (fresh_trans ((Keep.refl _ _).drew) x4); obtain ⟨ca, hc⟩ : ∃ c, c = w1.heap.size := ⟨_, rfl⟩; rw [← hc] at za ⊢; have H_ga := hid (show w1.heap.size ≤ ca by omega); have H_za4 := hid za; clear za g4 hc)
    | (have f4 : Fresh w1 w4 := (by first | exact x4 | exact x4.of_drew | exact x4.of_drewN))); have j0 := cell_fresh H_k0.out f4; have j1 := cell_fresh H_k1.out f4; have H_f4 := hid f4; clear x4 f4 ka kb kaa kbb; have ja := fun o => cell_fresh j0 ((Keep.refl (fun _ => False) w4).alloc o); have jb := fun o => cell_fresh j1 ((Keep.refl (fun _ => False) w4).alloc o); have jaa := fun o o' => cell_fresh j0 (((Keep.refl (fun _ => False) w4).alloc o).alloc o'); have jbb := fun o o' => cell_fresh j1 (((Keep.refl (fun _ => False) w4).alloc o).alloc o'))
  | (go_at_call 111; (with_reducible refine (H_hpw.out _ ?c1).mono ?_); (case c1 => first | exact H_f4.out | exact H_f4.out.alloc _ | exact (H_f4.out.alloc _).alloc _); rintro r w5 ⟨bt, vt, rfl, zt, x5, gt, ot⟩; (first
    | (have y5 : Fresh w4 w5 := x5; have H_za5 := hid (H_za4.out.fresh y5); have H_zb5 := hid (H_zb4.out.fresh y5); have f5 := fresh_trans H_f4.out y5; have H_nta := hid (show bt ≠ ca from fun e => by have h1 := H_za4.out.lt; have h2 : w4.heap.size ≤ bt := gt; omega); have H_ntb := hid (show bt ≠ cb from fun e => by have h1 := H_zb4.out.lt; have h2 : w4.heap.size ≤ bt := gt; omega); clear y5)
    | (have y5 : Fresh w4 w5 := x5; have H_za5 := hid (H_za4.out.fresh y5); have f5 := fresh_trans H_f4.out y5; have H_nta := hid (show bt ≠ ca from fun e => by have h1 := H_za4.out.lt; have h2 : w4.heap.size ≤ bt := gt; omega); clear y5)
    | (have H_za5 := hid (H_za4.out.fresh (fresh_trans ((Keep.refl (fun _ => False) w4).alloc (.cells #[.bool false, .slice none 0 0] 110 (0, 0))) x5)); obtain ⟨zb, f5, g5⟩ := H_hnw.out w4 w5 H_f4.out x5; have H_nta := hid (show bt ≠ ca from fun e => by have h1 := H_za4.out.lt; have h2 : w4.heap.size + 1 ≤ bt := (by have := gt; simpa using this); omega); obtain ⟨cb, hd⟩ : ∃ d, d = w4.heap.size := ⟨_, rfl⟩; have H_ntb := hid (show bt ≠ cb from fun e => by have h2 : w4.heap.size + 1 ≤ bt := (by have := gt; simpa using this); omega); have H_nab := hid (show ca ≠ cb from fun e => by have h1 := H_za4.out.lt; omega); rw [← hd] at zb g5 ⊢; have H_gb := hid g5; have H_zb5 := hid zb; clear zb g5 hd)
    | (obtain ⟨za, zb, f5, g5⟩ := H_hnw2.out w4 w5 H_f4.out x5; obtain ⟨ca, hc⟩ : ∃ c, c = w4.heap.size := ⟨_, rfl⟩; obtain ⟨cb, hcb⟩ : ∃ c, c = ca + 1 := ⟨_, rfl⟩; have hbt : ca + 2 ≤ bt := (by have h2 : w4.heap.size + 1 + 1 ≤ bt := (by have := gt; simpa using this); omega); rw [← hc, ← hcb] at zb; rw [← hc] at za g5; rw [← hc, ← hcb]; have H_ga := hid g5; have H_gb := hid (show w1.heap.size ≤ cb by omega); have H_nab := hid (show ca ≠ cb by omega); have H_nta := hid (show bt ≠ ca by omega); have H_ntb := hid (show bt ≠ cb by omega); have H_za5 := hid za; have H_zb5 := hid zb; clear za zb g5 hc hcb hbt)
    | (obtain ⟨za, f5, g5⟩ := H_hnw.out w4 w5 H_f4.out x5; obtain ⟨ca, hc⟩ : ∃ c, c = w4.heap.size := ⟨_, rfl⟩; have H_nta := hid (show bt ≠ ca from fun e => by have h2 : w4.heap.size + 1 ≤ bt := (by have := gt; simpa using this); omega); rw [← hc] at za g5 ⊢; have H_ga := hid g5; have H_za5 := hid za; clear za g5 hc)
    | (have f5 : Fresh w1 w5 := fresh_trans H_f4.out x5)); have l0 := cell_fresh H_k0.out f5; have l1 := cell_fresh H_k1.out f5; have H_f5 := hid f5; have H_btl := hid zt.lt; have H_zt := hid zt; clear x5 f5 ja jb jaa jbb zt gt ot; have la := fun o => cell_fresh l0 ((Keep.refl (fun _ => False) w5).alloc o); have lb := fun o => cell_fresh l1 ((Keep.refl (fun _ => False) w5).alloc o); have laa := fun o o' => cell_fresh l0 (((Keep.refl (fun _ => False) w5).alloc o).alloc o'); have lbb := fun o o' => cell_fresh l1 (((Keep.refl (fun _ => False) w5).alloc o).alloc o'))
  | (go_at_call 112; (first
    | (with_reducible refine (H_hdm.out _ _ _ _ _ H_za5.out H_zb5.out H_zt.out H_f5.out H_ga.out H_gb.out H_nab.out H_nta.out H_ntb.out).mono ?_)
    | (with_reducible refine (H_hdm.out _ _ _ _ _ H_zb5.out H_za5.out H_zt.out H_f5.out H_gb.out H_ga.out (Ne.symm H_nab.out) H_ntb.out H_nta.out).mono ?_)
    | ((have za := H_za5.out.fresh ((Keep.refl (fun _ => False) w5).alloc (.cells #[.bool false, .slice none 0 0] 110 (0, 0)))); (have zt5 := H_zt.out.fresh ((Keep.refl (fun _ => False) w5).alloc (.cells #[.bool false, .slice none 0 0] 110 (0, 0)))); (obtain ⟨zb, f5', g5⟩ := H_hnw.out w5 _ H_f5.out (Keep.refl _ _)); (obtain ⟨cb, hd⟩ : ∃ d, d = w5.heap.size := ⟨_, rfl⟩); have ntb : bt ≠ cb := (by have := H_btl.out; omega); have nab : ca ≠ cb := (fun e => by have h1 := H_za5.out.lt; omega); rw [← hd] at zb g5 ⊢; (first | (with_reducible refine (H_hdm.out _ _ _ _ _ za zb zt5 f5' H_ga.out g5 nab H_nta.out ntb).mono ?_) | (with_reducible refine (H_hdm.out _ _ _ _ _ zb za zt5 f5' g5 H_ga.out (Ne.symm nab) ntb H_nta.out).mono ?_)); clear za zb zt5 f5' g5 ntb nab hd)
    | ((have zt5 := H_zt.out.fresh (((Keep.refl (fun _ => False) w5).alloc (.cells #[.bool false, .slice none 0 0] 110 (0, 0))).alloc (.cells #[.bool false, .slice none 0 0] 110 (0, 0)))); (obtain ⟨za, zb, f5', g5⟩ := H_hnw2.out w5 _ H_f5.out (Keep.refl _ _)); (obtain ⟨ca, hc⟩ : ∃ c, c = w5.heap.size := ⟨_, rfl⟩); (obtain ⟨cb, hcb⟩ : ∃ c, c = ca + 1 := ⟨_, rfl⟩); have nta : bt ≠ ca := (by have := H_btl.out; omega); have ntb : bt ≠ cb := (by have := H_btl.out; omega); rw [← hc, ← hcb] at zb; rw [← hc] at za g5; rw [← hc, ← hcb]; (first | (with_reducible refine (H_hdm.out _ _ _ _ _ za zb zt5 f5' g5 (by omega) (by omega) nta ntb).mono ?_) | (with_reducible refine (H_hdm.out _ _ _ _ _ zb za zt5 f5' (by omega) g5 (by omega) ntb nta).mono ?_)); clear za zb zt5 f5' g5 nta ntb hc hcb)); rintro r w6 ⟨rfl, v6, u6, z6, m6, f6, o6, g6⟩; have n0 := cell_fresh H_k0.out f6; have n1 := cell_fresh H_k1.out f6; have H_z6 := hid z6; have H_m6 := hid m6; have H_f6 := hid f6; have H_o6 := hid o6; have H_g6 := hid g6; clear z6 m6 f6 o6 g6))
 all_goals
  have hs6 := IntSign_z _ _ _ _ H_m6.out
  rw [← H_hsg.out] at hs6
  have d6 := row_fresh H_r2.out H_f6.out
  have H_hs6 := hid hs6
  clear hs6
  have H_d6 := hid d6
  clear d6
  go_wp2_with (fail)
  refine H_hs6.out.mono ?_
  rintro r w7 ⟨rfl, hw7⟩
  obtain rfl : w6 = w7 := hw7.symm
  have hng : NG ≤ w6.heap.size := by have h1 := H_hG.out.size; have h2 := H_hf.out.size; have h3 := H_f6.out.size; omega
  have H_hng := hid hng
  clear hng
  go_wp2_with (fail)
  refine (H_hone.out _ H_hng.out).mono ?_
  rintro r w8 ⟨bo, vo, rfl, zo, f8, go, oo⟩
  have hadd := IntAdd_z _ _ bo _ _ vo _ Q 1 w8 H_hQl.out (by decide) (H_z6.out.fresh f8) (H_z6.out.fresh f8) zo (.inl rfl) (.inr (fun k hk hk' => by have h1 := oo k hk'; have h2 := H_z6.out.own_lt hk; omega))
  have H_hadd := hid hadd
  clear hadd zo go oo
  have H_f8 := hid f8
  clear f8
  go_wp2_with (fail)
  refine H_hadd.out.mono ?_
  rintro r w9 ⟨rfl, v9, z9, k9, o9⟩
  have f9 : Fresh w1 w9 := (fresh_trans H_f6.out H_f8.out).trans k9 (fun _ _ h => h) (fun k hk e => e.elim (fun e => by have := H_g6.out; omega) (fun e => by have := H_o6.out k e; omega))
  have o9' : ∀ k, v9.ownBlock = some k → w1.heap.size ≤ k := fun k hk => (o9 k hk).elim (fun e => H_o6.out k e) (fun e => by have h1 := H_f6.out.size; have h2 := H_f8.out.size; omega)
  have d9 := row_fresh H_r2.out f9
  have p0 := row_cell d9 0
  have p1 := row_cell d9 1
  simp at p0 p1
  have q0 : w9.frozen? ⟨g + 1, 0, none⟩ = false := frozen_of_row _ _ _ _ _ d9
  have q1 : w9.frozen? ⟨g + 1, 1, none⟩ = false := frozen_of_row _ _ _ _ _ d9
  have H_d9 := hid d9
  have H_z9 := hid z9
  have H_f9 := hid f9
  have H_o9 := hid o9'
  clear d9 z9 f9 o9'
  go_wp2_with (fail)
  refine bodyPost_ret (results_cell_row rfl _ _ (g + 1) 61 #[.pointer (some ⟨_, 0, none⟩), .int .i32 0] (0, 0) _ rfl (row_set (row_set H_d9.out)) Tryz.underlying61 rfl (by kernel_rfl)) rfl ?_
  have hgw := H_hg.out
  have h1s := H_hf.out.size
  have hg3 := H_g6.out
  have hlt2 := lt_of_row H_r2.out
  have kk : ∀ u u', Keep (fun k => k = g + 1) w9 ((w9.setCell ⟨g + 1, 0, none⟩ u).setCell ⟨g + 1, 1, none⟩ u') := fun u u' => ((Keep.refl (fun k => k = g + 1) w9).setCell (p := ⟨g + 1, 0, none⟩) (fun _ => rfl) u).setCell (p := ⟨g + 1, 1, none⟩) (fun _ => rfl) u'
  exact ⟨_, v9, rfl, H_z9.out.keep (kk _ _) (fun h => by omega) (fun k hk h => by have := H_o9.out k hk; omega),
   ((fresh_trans H_hf.out H_f9.out).setCell (p := ⟨g + 1, 0, none⟩) (fun h => by change g + 1 < w.heap.size at h; omega) _).setCell (p := ⟨g + 1, 1, none⟩) (fun h => by change g + 1 < w.heap.size at h; omega) _⟩

abbrev dd (z e : Int) : Value := .agg #[.string (bstr (wdig z)), .int .i64 e]

end Go.Proofs.YtllencgncinphaaGreatDoor
