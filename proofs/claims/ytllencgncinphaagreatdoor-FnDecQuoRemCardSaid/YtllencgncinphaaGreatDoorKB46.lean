/- shopspring: QuoRem, Mod and DivRound of two decimals; small integers. Printed by gen_dr.py. -/
import Derived.Test.YtllencgncinphaaGreatDoorKB19
import Derived.Test.YtllencgncinphaaGreatDoorKB42
import Derived.Test.YtllencgncinphaaGreatDoorKB45
namespace Go.Proofs.YtllencgncinphaaGreatDoor
open Go.RowKit
open Go.Lib (hid)

theorem qA_lt0 {z e : Int} (h : e < 0) : qA z e = z := by unfold qA; rw [show e.toNat = 0 by omega]; exact Int.mul_one z
theorem qB_ge0 {z e : Int} (h : 0 ≤ e) : qB z e = z := by unfold qB; rw [show (-e).toNat = 0 by omega]; exact Int.mul_one z

theorem quoRem_n (b1 b2 : Nat) (v1 v2 : Value) (z1 e1 z2 e2 p s E : Int) (w : World) (hG : Glob w) (hz1 : z1.natAbs < wpow 10) (hz2 : z2.natAbs < wpow 10) (h0 : z2 ≠ 0) (hx1 : ZI w b1 v1 z1) (hx2 : ZI w b2 v2 z2)
 (he1 : -400 ≤ e1 ∧ e1 ≤ 400) (he2 : -400 ≤ e2 ∧ e2 ≤ 400) (hp : -400 ≤ p ∧ p ≤ 400) (hs : s = -p) (hE : E = e1 - e2 - s) (hEb : -255 ≤ E ∧ E ≤ 255) :
 Calls Tryz.prog 106 #[sd b1 e1, sd b2 e2, .int .i32 p, .pointer none] w (fun r w' => ∃ bq vq br vr, r = .returned (.tuple #[sd bq s, sd br (if E < 0 then e1 else s + e2)]) ∧
  ZI w' bq vq ((qA z1 E).tdiv (qB z2 E)) ∧ ZI w' br vr ((qA z1 E).tmod (qB z2 E)) ∧ w.heap.size ≤ bq ∧ w.heap.size ≤ br ∧ (∀ k, vq.ownBlock = some k → w.heap.size ≤ k) ∧ (∀ k, vr.ownBlock = some k → w.heap.size ≤ k) ∧ Fresh w w') := by
 by_cases h : E < 0
 · rw [if_pos h, qA_lt0 h]
   unfold qB
   exact quoRem_nlt b1 b2 v1 v2 z1 e1 z2 e2 p s e1 E (-E).toNat (by omega) w hG hz1 hz2 h0 hx1 hx2 he1 he2 hp hs hE hEb.1 h rfl
 · rw [if_neg h, qB_ge0 (by omega)]
   unfold qA
   obtain ⟨n, rfl⟩ := Int.eq_ofNat_of_zero_le (show 0 ≤ E by omega)
   exact quoRem_nge b1 b2 v1 v2 z1 e1 z2 e2 p s (s + e2) n w hG hz1 hz2 h0 hx1 hx2 he1 he2 hp hs hE (by omega) rfl

set_option maxRecDepth 20000 in
set_option maxHeartbeats 2000000 in
theorem QuoRem_ok (b1 b2 : Nat) (v1 v2 : Value) (z1 e1 z2 e2 p s E : Int) (w : World) (hG : Glob w) (hz1 : z1.natAbs < wpow 10) (hz2 : z2.natAbs < wpow 10) (h0 : z2 ≠ 0) (hx1 : ZI w b1 v1 z1) (hx2 : ZI w b2 v2 z2)
 (he1 : -400 ≤ e1 ∧ e1 ≤ 400) (he2 : -400 ≤ e2 ∧ e2 ≤ 400) (hp : -400 ≤ p ∧ p ≤ 400) (hs : s = -p) (hE : E = e1 - e2 - s) (hEb : -255 ≤ E ∧ E ≤ 255) :
 Calls Tryz.prog 58 #[sd b1 e1, sd b2 e2, .int .i32 p] w (fun r w' => ∃ bq vq br vr, r = .returned (.tuple #[sd bq s, sd br (if E < 0 then e1 else s + e2)]) ∧
  ZI w' bq vq ((qA z1 E).tdiv (qB z2 E)) ∧ ZI w' br vr ((qA z1 E).tmod (qB z2 E)) ∧ w.heap.size ≤ bq ∧ w.heap.size ≤ br ∧ (∀ k, vq.ownBlock = some k → w.heap.size ≤ k) ∧ (∀ k, vr.ownBlock = some k → w.heap.size ≤ k) ∧ Fresh w w') := by
 have hm := fun W (hW : Fresh w W) => quoRem_n b1 b2 v1 v2 z1 e1 z2 e2 p s E W (hG.fresh hW) hz1 hz2 h0 (hx1.fresh hW) (hx2.fresh hW) he1 he2 hp hs hE hEb
 obtain ⟨er, her⟩ : ∃ er, er = (if E < 0 then e1 else s + e2) := ⟨_, rfl⟩
 rw [← her] at hm ⊢
 generalize (qA z1 E).tdiv (qB z2 E) = Q at *
 generalize (qA z1 E).tmod (qB z2 E) = R at *
 obtain ⟨g, hg⟩ : ∃ g, g = w.heap.size := ⟨_, rfl⟩
 have bx := boxes4 w #[.pointer (some ⟨b1, 0, none⟩), .int .i32 e1] #[.pointer (some ⟨b2, 0, none⟩), .int .i32 e2] #[.pointer none, .int .i32 0] #[.pointer none, .int .i32 0] 61 61 61 61 g hg
 clear hG hz1 hz2 h0 hx1 hx2 he1 he2 hp hs hE hEb her
 have H_bx := hid bx; have H_hm := hid hm; clear bx hm
 go_enter Tryz.func58, Tryz.ntmps58
 go_wp2_with (fail)
 generalize hw1 : (((w.alloc _).alloc _).alloc _).alloc _ = w1
 rw [← hg]
 obtain ⟨d1, d2, d3, d4, fa⟩ := H_bx.out w1 hw1
 have k0 := row_cell d1 0
 have k1 := row_cell d1 1
 have m0 := row_cell d2 0
 have m1 := row_cell d2 1
 simp at k0 k1 m0 m1
 clear H_bx
 have H_d1 := hid d1; have H_d2 := hid d2; have H_d3 := hid d3; have H_d4 := hid d4; have H_fa := hid fa; have H_hw1 := hid hw1; have H_hg := hid hg; clear d1 d2 d3 d4 fa hw1 hg
 go_wp2_with (fail)
 refine (H_hm.out _ H_fa.out).mono ?_
 rintro r w2 ⟨bq, vq, br, vr, rfl, zq, zr, gq, gr, oq, orr, f2⟩
 clear k0 k1 m0 m1
 have d3 := row_fresh H_d3.out f2
 have d4 := row_fresh H_d4.out f2
 have hl4 := lt_of_row H_d4.out
 have p0 := row_cell d3 0
 have p1 := row_cell d3 1
 have p2 := row_cell d4 0
 have p3 := row_cell d4 1
 simp at p0 p1 p2 p3
 have s0' : w2.frozen? ⟨g + 1 + 1, 0, none⟩ = false := frozen_of_row _ _ _ _ _ d3
 have s1' : w2.frozen? ⟨g + 1 + 1, 1, none⟩ = false := frozen_of_row _ _ _ _ _ d3
 have s2' : w2.frozen? ⟨g + 1 + 1 + 1, 0, none⟩ = false := frozen_of_row _ _ _ _ _ d4
 have s3' : w2.frozen? ⟨g + 1 + 1 + 1, 1, none⟩ = false := frozen_of_row _ _ _ _ _ d4
 have n2 : ∀ u u' c, w2.cell? ⟨g + 1 + 1 + 1, c, none⟩ = w2.cell? ⟨g + 1 + 1 + 1, c, none⟩ → ((w2.setCell ⟨g + 1 + 1, 0, none⟩ u).setCell ⟨g + 1 + 1, 1, none⟩ u').cell? ⟨g + 1 + 1 + 1, c, none⟩ = w2.cell? ⟨g + 1 + 1 + 1, c, none⟩ := fun u u' c h => far_cell (by omega) (far_cell (by omega) h)
 have p2' := fun u u' => (n2 u u' 0 rfl).trans p2
 have p3' := fun u u' => (n2 u u' 1 rfl).trans p3
 clear n2 p2 p3
 clear H_d1 H_d2 H_d3 H_d4
 have H_d3 := hid d3; have H_d4 := hid d4; have H_f2 := hid f2; have H_zq := hid zq; have H_zr := hid zr; have H_gq := hid gq; have H_gr := hid gr; have H_oq := hid oq; have H_orr := hid orr; have H_hl4 := hid hl4; clear d3 d4 f2 zq zr gq gr oq orr hl4
 go_wp2_with (fail)
 have r3 := row_set_ne (i := 1) (v := .int .i32 er) (by omega : g + 1 + 1 + 1 ≠ g + 1 + 1) (row_set_ne (i := 0) (v := .pointer (some ⟨br, 0, none⟩)) (by omega : g + 1 + 1 + 1 ≠ g + 1 + 1) (row_set (i := 1) (v := .int .i32 s) (row_set (i := 0) (v := .pointer (some ⟨bq, 0, none⟩)) H_d3.out)))
 have r4 := row_set (i := 1) (v := .int .i32 er) (row_set (i := 0) (v := .pointer (some ⟨br, 0, none⟩)) (row_set_ne (i := 1) (v := .int .i32 s) (by omega : g + 1 + 1 ≠ g + 1 + 1 + 1) (row_set_ne (i := 0) (v := .pointer (some ⟨bq, 0, none⟩)) (by omega : g + 1 + 1 ≠ g + 1 + 1 + 1) H_d4.out)))
 have kf : Keep (fun k => k = g + 1 + 1 ∨ k = g + 1 + 1 + 1) w2 ((((w2.setCell ⟨g + 1 + 1, 0, none⟩ (.pointer (some ⟨bq, 0, none⟩))).setCell ⟨g + 1 + 1, 1, none⟩ (.int .i32 s)).setCell ⟨g + 1 + 1 + 1, 0, none⟩ (.pointer (some ⟨br, 0, none⟩))).setCell ⟨g + 1 + 1 + 1, 1, none⟩ (.int .i32 er)) :=
  ((((Keep.refl _ w2).setCell (p := ⟨g + 1 + 1, 0, none⟩) (fun _ => .inl rfl) _).setCell (p := ⟨g + 1 + 1, 1, none⟩) (fun _ => .inl rfl) _).setCell (p := ⟨g + 1 + 1 + 1, 0, none⟩) (fun _ => .inr rfl) _).setCell (p := ⟨g + 1 + 1 + 1, 1, none⟩) (fun _ => .inr rfl) _
 generalize hw13 : (((w2.setCell _ _).setCell _ _).setCell _ _).setCell _ _ = w13 at *
 simp at r3 r4
 refine bodyPost_ret (results_cell2 rfl _ _ (g + 1 + 1) (g + 1 + 1 + 1) rfl rfl
  (run_loadVar_row w13 _ _ _ _ (0, 0) _ r3 Tryz.underlying61 rfl (by kernel_rfl)) (run_loadVar_row w13 _ _ _ _ (0, 0) _ r4 Tryz.underlying61 rfl (by kernel_rfl))) rfl ?_
 have hgw := H_hg.out
 have hl4 := H_hl4.out
 have gq := H_gq.out
 have gr := H_gr.out
 have hfs := H_fa.out.size
 refine ⟨bq, vq, br, vr, rfl, H_zq.out.keep kf (by omega) (fun k hk h => by have := H_oq.out k hk; omega), H_zr.out.keep kf (by omega) (fun k hk h => by have := H_orr.out k hk; omega), by omega, by omega, fun k hk => by have := H_oq.out k hk; omega, fun k hk => by have := H_orr.out k hk; omega, ?_⟩
 exact (fresh_trans H_fa.out H_f2.out).trans kf (fun _ _ h => h) (fun k hk h => by omega)

set_option maxRecDepth 20000 in
set_option maxHeartbeats 2000000 in
theorem Mod_ok (b1 b2 : Nat) (v1 v2 : Value) (z1 e1 z2 e2 E : Int) (w : World) (hG : Glob w) (hz1 : z1.natAbs < wpow 10) (hz2 : z2.natAbs < wpow 10) (h0 : z2 ≠ 0) (hx1 : ZI w b1 v1 z1) (hx2 : ZI w b2 v2 z2)
 (he1 : -400 ≤ e1 ∧ e1 ≤ 400) (he2 : -400 ≤ e2 ∧ e2 ≤ 400) (hE : E = e1 - e2) (hEb : -255 ≤ E ∧ E ≤ 255) :
 Calls Tryz.prog 65 #[sd b1 e1, sd b2 e2] w (fun r w' => (∃ br vr, r = .returned (sd br (if E < 0 then e1 else e2)) ∧ ZI w' br vr ((qA z1 E).tmod (qB z2 E))) ∧ Fresh w w') := by
 have hm := fun W (hW : Fresh w W) => QuoRem_ok b1 b2 v1 v2 z1 e1 z2 e2 0 0 E W (hG.fresh hW) hz1 hz2 h0 (hx1.fresh hW) (hx2.fresh hW) he1 he2 (by omega) (by omega) (by omega) hEb
 rw [Int.zero_add] at hm
 obtain ⟨er, her⟩ : ∃ er, er = (if E < 0 then e1 else e2) := ⟨_, rfl⟩
 rw [← her] at hm ⊢
 generalize (qA z1 E).tdiv (qB z2 E) = Q at *
 generalize (qA z1 E).tmod (qB z2 E) = R at *
 obtain ⟨g, hg⟩ : ∃ g, g = w.heap.size := ⟨_, rfl⟩
 have bx := boxes3 w #[.pointer (some ⟨b1, 0, none⟩), .int .i32 e1] #[.pointer (some ⟨b2, 0, none⟩), .int .i32 e2] #[.pointer none, .int .i32 0] 61 61 61 g hg
 clear hG hz1 hz2 h0 hx1 hx2 he1 he2 hE hEb her
 have H_bx := hid bx; have H_hm := hid hm; clear bx hm
 go_enter Tryz.func65, Tryz.ntmps65
 go_wp2_with (fail)
 generalize hw1 : ((w.alloc _).alloc _).alloc _ = w1
 rw [← hg]
 obtain ⟨d1, d2, d3, fa, -⟩ := H_bx.out w1 hw1
 have k0 := row_cell d1 0
 have k1 := row_cell d1 1
 have m0 := row_cell d2 0
 have m1 := row_cell d2 1
 simp at k0 k1 m0 m1
 clear H_bx
 have H_d1 := hid d1; have H_d2 := hid d2; have H_d3 := hid d3; have H_fa := hid fa; have H_hw1 := hid hw1; have H_hg := hid hg; clear d1 d2 d3 fa hw1 hg
 go_wp2_with (fail)
 refine (H_hm.out _ H_fa.out).mono ?_
 rintro r w2 ⟨bq, vq, br, vr, rfl, zq, zr, gq, gr, oq, orr, f2⟩
 clear k0 k1 m0 m1
 have d3 := row_fresh H_d3.out f2
 have hl3 := lt_of_row H_d3.out
 have p0 := row_cell d3 0
 have p1 := row_cell d3 1
 simp at p0 p1
 obtain ⟨h, hh⟩ : ∃ h, h = w2.heap.size := ⟨_, rfl⟩
 have p0' := fun o o' => cell_fresh p0 (((Keep.refl (fun _ => False) w2).alloc o).alloc o')
 have p1' := fun o o' => cell_fresh p1 (((Keep.refl (fun _ => False) w2).alloc o).alloc o')
 have s0' : ∀ o o', ((w2.alloc o).alloc o').frozen? ⟨g + 1 + 1, 0, none⟩ = false := fun o o' => frozen_of_row _ _ _ _ _ (row_fresh d3 (((Keep.refl (fun _ => False) w2).alloc o).alloc o'))
 have s1' : ∀ o o', ((w2.alloc o).alloc o').frozen? ⟨g + 1 + 1, 1, none⟩ = false := fun o o' => frozen_of_row _ _ _ _ _ (row_fresh d3 (((Keep.refl (fun _ => False) w2).alloc o).alloc o'))
 clear H_d1 H_d2 H_d3 zq gq oq p0 p1
 have H_d3 := hid d3; have H_f2 := hid f2; have H_zr := hid zr; have H_gr := hid gr; have H_orr := hid orr; have H_hl3 := hid hl3; have H_hh := hid hh; clear d3 f2 zr gr orr hl3 hh
 go_wp2_with (fail)
 have kf : Keep (fun k => k = g + 1 + 1) w2 ((((w2.alloc (.cells #[.pointer (some ⟨bq, 0, none⟩), .int .i32 0] 61 (0, 0))).alloc (.cells #[.pointer (some ⟨br, 0, none⟩), .int .i32 er] 61 (0, 0))).setCell ⟨g + 1 + 1, 0, none⟩ (.pointer (some ⟨br, 0, none⟩))).setCell ⟨g + 1 + 1, 1, none⟩ (.int .i32 er)) :=
  ((((Keep.refl (fun k => k = g + 1 + 1) w2).alloc _).alloc _).setCell (p := ⟨g + 1 + 1, 0, none⟩) (fun _ => rfl) _).setCell (p := ⟨g + 1 + 1, 1, none⟩) (fun _ => rfl) _
 have r3 := row_set (i := 1) (v := .int .i32 er) (row_set (i := 0) (v := .pointer (some ⟨br, 0, none⟩)) (row_fresh H_d3.out (((Keep.refl (fun _ => False) w2).alloc (.cells #[.pointer (some ⟨bq, 0, none⟩), .int .i32 0] 61 (0, 0))).alloc (.cells #[.pointer (some ⟨br, 0, none⟩), .int .i32 er] 61 (0, 0)))))
 generalize hw13 : (((w2.alloc _).alloc _).setCell _ _).setCell _ _ = w13 at *
 simp at r3
 refine bodyPost_ret (results_cell_row rfl _ _ (g + 1 + 1) 61 #[.pointer (some ⟨br, 0, none⟩), .int .i32 er] (0, 0) _ rfl r3 Tryz.underlying61 rfl (by kernel_rfl)) rfl ?_
 have hgw := H_hg.out
 have hl3 := H_hl3.out
 have gr := H_gr.out
 have hfs := H_fa.out.size
 exact ⟨⟨br, vr, rfl, H_zr.out.keep kf (by omega) (fun k hk h => by have := H_orr.out k hk; omega)⟩, (fresh_trans H_fa.out H_f2.out).trans kf (fun _ _ h => h) (fun k hk h => by omega)⟩

set_option maxRecDepth 20000 in
theorem quoRem_zero (b1 b2 : Nat) (v2 : Value) (e1 e2 p : Int) (bb : Value) (_hbv : bb = .pointer none ∨ ∃ a, bb = .pointer (some a)) (w : World) (hx2 : ZI w b2 v2 0) :
 Calls Tryz.prog 106 #[sd b1 e1, sd b2 e2, .int .i32 p, bb] w (fun r w' => (∃ u pv, r = .panicked [{ v := .iface u pv, recovered := false }]) ∧ Fresh w w') := by
 have hgv := fun b e W => getValue_any b e W
 have hsg := fun W (hW : Fresh w W) => IntSign_z b2 v2 0 W (hx2.fresh hW)
 rw [if_pos rfl] at hsg
 obtain ⟨g, hg⟩ : ∃ g, g = w.heap.size := ⟨_, rfl⟩
 have bx := boxes4 w #[.pointer (some ⟨b1, 0, none⟩), .int .i32 e1] #[.pointer (some ⟨b2, 0, none⟩), .int .i32 e2] #[.pointer none, .int .i32 0] #[.pointer none, .int .i32 0] 61 61 61 61 g hg
 have H_bx := hid bx; have H_hgv := hid hgv; have H_hsg := hid hsg; have H_hx2 := hid hx2; clear bx hgv hsg hx2
 go_enter Tryz.func106, Tryz.ntmps106
 go_wp2_with (fail)
 generalize hw1 : (((w.alloc _).alloc _).alloc _).alloc _ = w1
 rw [← hg]
 obtain ⟨d1, d2, d3, d4, fa⟩ := H_bx.out w1 hw1
 have m0 := row_cell d2 0
 have m1 := row_cell d2 1
 simp at m0 m1
 clear H_bx d1 d3 d4
 have H_d2 := hid d2; have H_fa := hid fa; have H_hw1 := hid hw1; have H_hg := hid hg; clear d2 fa hw1 hg
 go_wp2_with (fail)
 refine (H_hgv.out _ _ _).mono ?_
 rintro r w2 ⟨rfl, f2⟩
 clear m0 m1
 have fa := fresh_trans H_fa.out f2
 clear H_fa
 have H_fa := hid fa; have H_f2 := hid f2; clear fa f2
 go_wp2_with (fail)
 refine (H_hsg.out _ H_fa.out).mono ?_
 rintro r w3 ⟨rfl, hw3⟩
 obtain rfl : w2 = w3 := hw3.symm
 go_wp2_with (fail)
 exact ⟨rfl, ⟨_, _, rfl⟩, H_fa.out⟩

set_option maxRecDepth 20000 in
theorem QuoRem_zero (b1 b2 : Nat) (v2 : Value) (e1 e2 p : Int) (w : World) (hx2 : ZI w b2 v2 0) :
 Calls Tryz.prog 58 #[sd b1 e1, sd b2 e2, .int .i32 p] w (fun r w' => (∃ u pv, r = .panicked [{ v := .iface u pv, recovered := false }]) ∧ Fresh w w') := by
 have hm := fun W (hW : Fresh w W) => quoRem_zero b1 b2 v2 e1 e2 p (.pointer none) (.inl rfl) W (hx2.fresh hW)
 obtain ⟨g, hg⟩ : ∃ g, g = w.heap.size := ⟨_, rfl⟩
 have bx := boxes4 w #[.pointer (some ⟨b1, 0, none⟩), .int .i32 e1] #[.pointer (some ⟨b2, 0, none⟩), .int .i32 e2] #[.pointer none, .int .i32 0] #[.pointer none, .int .i32 0] 61 61 61 61 g hg
 have H_bx := hid bx; have H_hm := hid hm; have H_hx2 := hid hx2; clear bx hm hx2
 go_enter Tryz.func58, Tryz.ntmps58
 go_wp2_with (fail)
 generalize hw1 : (((w.alloc _).alloc _).alloc _).alloc _ = w1
 rw [← hg]
 obtain ⟨d1, d2, -, -, fa⟩ := H_bx.out w1 hw1
 have k0 := row_cell d1 0
 have k1 := row_cell d1 1
 have m0 := row_cell d2 0
 have m1 := row_cell d2 1
 simp at k0 k1 m0 m1
 clear H_bx d1 d2
 have H_fa := hid fa; have H_hw1 := hid hw1; have H_hg := hid hg; clear fa hw1 hg
 go_wp2_with (fail)
 refine (H_hm.out _ H_fa.out).mono ?_
 rintro r w2 ⟨⟨u, pv, rfl⟩, f2⟩
 clear k0 k1 m0 m1
 have fa := fresh_trans H_fa.out f2
 clear H_fa
 have H_fa := hid fa; have H_f2 := hid f2; clear fa f2
 go_wp2_with (fail)
 exact ⟨rfl, ⟨_, _, rfl⟩, H_fa.out⟩

set_option maxRecDepth 20000 in
theorem Mod_zero (b1 b2 : Nat) (v2 : Value) (e1 e2 : Int) (w : World) (hx2 : ZI w b2 v2 0) :
 Calls Tryz.prog 65 #[sd b1 e1, sd b2 e2] w (fun r w' => (∃ u pv, r = .panicked [{ v := .iface u pv, recovered := false }]) ∧ Fresh w w') := by
 have hm := fun W (hW : Fresh w W) => QuoRem_zero b1 b2 v2 e1 e2 0 W (hx2.fresh hW)
 obtain ⟨g, hg⟩ : ∃ g, g = w.heap.size := ⟨_, rfl⟩
 have bx := boxes3 w #[.pointer (some ⟨b1, 0, none⟩), .int .i32 e1] #[.pointer (some ⟨b2, 0, none⟩), .int .i32 e2] #[.pointer none, .int .i32 0] 61 61 61 g hg
 have H_bx := hid bx; have H_hm := hid hm; have H_hx2 := hid hx2; clear bx hm hx2
 go_enter Tryz.func65, Tryz.ntmps65
 go_wp2_with (fail)
 generalize hw1 : ((w.alloc _).alloc _).alloc _ = w1
 rw [← hg]
 obtain ⟨d1, d2, -, fa, -⟩ := H_bx.out w1 hw1
 have k0 := row_cell d1 0
 have k1 := row_cell d1 1
 have m0 := row_cell d2 0
 have m1 := row_cell d2 1
 simp at k0 k1 m0 m1
 clear H_bx d1 d2
 have H_fa := hid fa; have H_hw1 := hid hw1; have H_hg := hid hg; clear fa hw1 hg
 go_wp2_with (fail)
 refine (H_hm.out _ H_fa.out).mono ?_
 rintro r w2 ⟨⟨u, pv, rfl⟩, f2⟩
 clear k0 k1 m0 m1
 have fa := fresh_trans H_fa.out f2
 clear H_fa
 have H_fa := hid fa; have H_f2 := hid f2; clear fa f2
 go_wp2_with (fail)
 exact ⟨rfl, ⟨_, _, rfl⟩, H_fa.out⟩

end Go.Proofs.YtllencgncinphaaGreatDoor
