/- The contracts of the greater and the smaller one of two decimals: Decimal.Max, Min, impl.FixMax, FixMin. -/
import Derived.Test.YtibaeafmgncjdaaGreatDoorK5
import Derived.Test.YtibaeafmgncjdaaGreatDoorK10
import Derived.Test.YtibaeafmgncjdaaGreatDoorK12
import Derived.Test.YtibaeafmgncjdaaGreatDoorK24
namespace Go.Proofs.YtibaeafmgncjdaaGreatDoor
open Go.RowKit

set_option maxRecDepth 20000 in
set_option maxHeartbeats 2000000 in
theorem Max_any (n1 n2 : Bool) (c1 s1 c2 s2 : Nat) (z : Int) (w : World)
    (hcmp : ∀ W, Fresh w W → Calls Tryz.prog 106 #[gd n1 s1 c1, gd n2 s2 c2] W (VRet W (.int .i64 z))) :
    Calls Tryz.prog 78 #[gd n1 s1 c1, gd n2 s2 c2] w (VRet w (if 0 ≤ z then gd n1 s1 c1 else gd n2 s2 c2)) := by
  obtain ⟨g, hg⟩ : ∃ g, g = w.heap.size := ⟨_, rfl⟩
  have bx := boxes3 w #[.bool n1, .int .i8 s1, .int .u64 c1] #[.bool n2, .int .i8 s2, .int .u64 c2] #[.bool false, .int .i8 0, .int .u64 0] 62 62 62 g hg
  by_cases hz : 0 ≤ z
  · rw [if_pos hz]
    have t1 : decide (0 ≤ z) = true := by simpa using hz
    have H_bx := Lib.hid bx; clear bx
    have H_hcmp := Lib.hid hcmp; clear hcmp
    go_enter Tryz.func78, Tryz.ntmps78
    go_wp2_with (fail)
    generalize hw1 : ((w.alloc _).alloc _).alloc _ = w1
    rw [← hg]
    obtain ⟨b1, b2, b3, hf, hgs⟩ := H_bx.out w1 hw1
    have H_b1 := Lib.hid b1; clear b1
    have H_b2 := Lib.hid b2; clear b2
    have H_b3 := Lib.hid b3; clear b3
    have H_hf := Lib.hid hf; clear hf
    have H_hw1 := Lib.hid hw1; clear hw1
    have H_hg := Lib.hid hg; clear hg
    have H_hgs := Lib.hid hgs; clear hgs
    refine (H_hcmp.out _ H_hf.out).mono ?_
    rintro e w5 ⟨rfl, f5⟩
    have d1 := row_fresh H_b1.out f5
    have d2 := row_fresh H_b2.out f5
    have d3 := row_fresh H_b3.out f5
    have k0 := row_cell d1 0
    have k1 := row_cell d1 1
    have k2 := row_cell d1 2
    simp at k0 k1 k2
    have k3 := row_cell d2 0
    have k4 := row_cell d2 1
    have k5 := row_cell d2 2
    simp at k3 k4 k5
    have p0 := row_cell d3 0
    have p1 := row_cell d3 1
    have p2 := row_cell d3 2
    simp at p0 p1 p2
    have q0 : w5.frozen? ⟨g + 1 + 1, 0, none⟩ = false := frozen_of_row _ _ _ _ _ d3
    have q1 : w5.frozen? ⟨g + 1 + 1, 1, none⟩ = false := frozen_of_row _ _ _ _ _ d3
    have q2 : w5.frozen? ⟨g + 1 + 1, 2, none⟩ = false := frozen_of_row _ _ _ _ _ d3
    have H_d1 := Lib.hid d1; clear d1
    have H_d2 := Lib.hid d2; clear d2
    have H_d3 := Lib.hid d3; clear d3
    have H_f5 := Lib.hid f5; clear f5
    go_wp2_with (fail)
    refine bodyPost_ret (results_cell_row rfl _ _ (g + 1 + 1) 62 #[.bool n1, .int .i8 s1, .int .u64 c1] (0, 0) _ rfl (row3 H_d3.out) Tryz.underlying62 rfl (by kernel_rfl)) rfl ?_
    exact ⟨rfl, (fresh_trans H_hf.out H_f5.out).set3 (by have := H_hg.out; omega)⟩
  · rw [if_neg hz]
    have t1 : decide (0 ≤ z) = false := by simpa using hz
    have H_bx := Lib.hid bx; clear bx
    have H_hcmp := Lib.hid hcmp; clear hcmp
    go_enter Tryz.func78, Tryz.ntmps78
    go_wp2_with (fail)
    generalize hw1 : ((w.alloc _).alloc _).alloc _ = w1
    rw [← hg]
    obtain ⟨b1, b2, b3, hf, hgs⟩ := H_bx.out w1 hw1
    have H_b1 := Lib.hid b1; clear b1
    have H_b2 := Lib.hid b2; clear b2
    have H_b3 := Lib.hid b3; clear b3
    have H_hf := Lib.hid hf; clear hf
    have H_hw1 := Lib.hid hw1; clear hw1
    have H_hg := Lib.hid hg; clear hg
    have H_hgs := Lib.hid hgs; clear hgs
    refine (H_hcmp.out _ H_hf.out).mono ?_
    rintro e w5 ⟨rfl, f5⟩
    have d1 := row_fresh H_b1.out f5
    have d2 := row_fresh H_b2.out f5
    have d3 := row_fresh H_b3.out f5
    have k0 := row_cell d1 0
    have k1 := row_cell d1 1
    have k2 := row_cell d1 2
    simp at k0 k1 k2
    have k3 := row_cell d2 0
    have k4 := row_cell d2 1
    have k5 := row_cell d2 2
    simp at k3 k4 k5
    have p0 := row_cell d3 0
    have p1 := row_cell d3 1
    have p2 := row_cell d3 2
    simp at p0 p1 p2
    have q0 : w5.frozen? ⟨g + 1 + 1, 0, none⟩ = false := frozen_of_row _ _ _ _ _ d3
    have q1 : w5.frozen? ⟨g + 1 + 1, 1, none⟩ = false := frozen_of_row _ _ _ _ _ d3
    have q2 : w5.frozen? ⟨g + 1 + 1, 2, none⟩ = false := frozen_of_row _ _ _ _ _ d3
    have H_d1 := Lib.hid d1; clear d1
    have H_d2 := Lib.hid d2; clear d2
    have H_d3 := Lib.hid d3; clear d3
    have H_f5 := Lib.hid f5; clear f5
    go_wp2_with (fail)
    refine bodyPost_ret (results_cell_row rfl _ _ (g + 1 + 1) 62 #[.bool n2, .int .i8 s2, .int .u64 c2] (0, 0) _ rfl (row3 H_d3.out) Tryz.underlying62 rfl (by kernel_rfl)) rfl ?_
    exact ⟨rfl, (fresh_trans H_hf.out H_f5.out).set3 (by have := H_hg.out; omega)⟩

set_option maxRecDepth 20000 in
set_option maxHeartbeats 2000000 in
theorem Min_any (n1 n2 : Bool) (c1 s1 c2 s2 : Nat) (z : Int) (w : World)
    (hcmp : ∀ W, Fresh w W → Calls Tryz.prog 106 #[gd n1 s1 c1, gd n2 s2 c2] W (VRet W (.int .i64 z))) :
    Calls Tryz.prog 80 #[gd n1 s1 c1, gd n2 s2 c2] w (VRet w (if z ≤ 0 then gd n1 s1 c1 else gd n2 s2 c2)) := by
  obtain ⟨g, hg⟩ : ∃ g, g = w.heap.size := ⟨_, rfl⟩
  have bx := boxes3 w #[.bool n1, .int .i8 s1, .int .u64 c1] #[.bool n2, .int .i8 s2, .int .u64 c2] #[.bool false, .int .i8 0, .int .u64 0] 62 62 62 g hg
  by_cases hz : z ≤ 0
  · rw [if_pos hz]
    have t1 : decide (z ≤ 0) = true := by simpa using hz
    have H_bx := Lib.hid bx; clear bx
    have H_hcmp := Lib.hid hcmp; clear hcmp
    go_enter Tryz.func80, Tryz.ntmps80
    go_wp2_with (fail)
    generalize hw1 : ((w.alloc _).alloc _).alloc _ = w1
    rw [← hg]
    obtain ⟨b1, b2, b3, hf, hgs⟩ := H_bx.out w1 hw1
    have H_b1 := Lib.hid b1; clear b1
    have H_b2 := Lib.hid b2; clear b2
    have H_b3 := Lib.hid b3; clear b3
    have H_hf := Lib.hid hf; clear hf
    have H_hw1 := Lib.hid hw1; clear hw1
    have H_hg := Lib.hid hg; clear hg
    have H_hgs := Lib.hid hgs; clear hgs
    refine (H_hcmp.out _ H_hf.out).mono ?_
    rintro e w5 ⟨rfl, f5⟩
    have d1 := row_fresh H_b1.out f5
    have d2 := row_fresh H_b2.out f5
    have d3 := row_fresh H_b3.out f5
    have k0 := row_cell d1 0
    have k1 := row_cell d1 1
    have k2 := row_cell d1 2
    simp at k0 k1 k2
    have k3 := row_cell d2 0
    have k4 := row_cell d2 1
    have k5 := row_cell d2 2
    simp at k3 k4 k5
    have p0 := row_cell d3 0
    have p1 := row_cell d3 1
    have p2 := row_cell d3 2
    simp at p0 p1 p2
    have q0 : w5.frozen? ⟨g + 1 + 1, 0, none⟩ = false := frozen_of_row _ _ _ _ _ d3
    have q1 : w5.frozen? ⟨g + 1 + 1, 1, none⟩ = false := frozen_of_row _ _ _ _ _ d3
    have q2 : w5.frozen? ⟨g + 1 + 1, 2, none⟩ = false := frozen_of_row _ _ _ _ _ d3
    have H_d1 := Lib.hid d1; clear d1
    have H_d2 := Lib.hid d2; clear d2
    have H_d3 := Lib.hid d3; clear d3
    have H_f5 := Lib.hid f5; clear f5
    go_wp2_with (fail)
    refine bodyPost_ret (results_cell_row rfl _ _ (g + 1 + 1) 62 #[.bool n1, .int .i8 s1, .int .u64 c1] (0, 0) _ rfl (row3 H_d3.out) Tryz.underlying62 rfl (by kernel_rfl)) rfl ?_
    exact ⟨rfl, (fresh_trans H_hf.out H_f5.out).set3 (by have := H_hg.out; omega)⟩
  · rw [if_neg hz]
    have t1 : decide (z ≤ 0) = false := by simpa using hz
    have H_bx := Lib.hid bx; clear bx
    have H_hcmp := Lib.hid hcmp; clear hcmp
    go_enter Tryz.func80, Tryz.ntmps80
    go_wp2_with (fail)
    generalize hw1 : ((w.alloc _).alloc _).alloc _ = w1
    rw [← hg]
    obtain ⟨b1, b2, b3, hf, hgs⟩ := H_bx.out w1 hw1
    have H_b1 := Lib.hid b1; clear b1
    have H_b2 := Lib.hid b2; clear b2
    have H_b3 := Lib.hid b3; clear b3
    have H_hf := Lib.hid hf; clear hf
    have H_hw1 := Lib.hid hw1; clear hw1
    have H_hg := Lib.hid hg; clear hg
    have H_hgs := Lib.hid hgs; clear hgs
    refine (H_hcmp.out _ H_hf.out).mono ?_
    rintro e w5 ⟨rfl, f5⟩
    have d1 := row_fresh H_b1.out f5
    have d2 := row_fresh H_b2.out f5
    have d3 := row_fresh H_b3.out f5
    have k0 := row_cell d1 0
    have k1 := row_cell d1 1
    have k2 := row_cell d1 2
    simp at k0 k1 k2
    have k3 := row_cell d2 0
    have k4 := row_cell d2 1
    have k5 := row_cell d2 2
    simp at k3 k4 k5
    have p0 := row_cell d3 0
    have p1 := row_cell d3 1
    have p2 := row_cell d3 2
    simp at p0 p1 p2
    have q0 : w5.frozen? ⟨g + 1 + 1, 0, none⟩ = false := frozen_of_row _ _ _ _ _ d3
    have q1 : w5.frozen? ⟨g + 1 + 1, 1, none⟩ = false := frozen_of_row _ _ _ _ _ d3
    have q2 : w5.frozen? ⟨g + 1 + 1, 2, none⟩ = false := frozen_of_row _ _ _ _ _ d3
    have H_d1 := Lib.hid d1; clear d1
    have H_d2 := Lib.hid d2; clear d2
    have H_d3 := Lib.hid d3; clear d3
    have H_f5 := Lib.hid f5; clear f5
    go_wp2_with (fail)
    refine bodyPost_ret (results_cell_row rfl _ _ (g + 1 + 1) 62 #[.bool n2, .int .i8 s2, .int .u64 c2] (0, 0) _ rfl (row3 H_d3.out) Tryz.underlying62 rfl (by kernel_rfl)) rfl ?_
    exact ⟨rfl, (fresh_trans H_hf.out H_f5.out).set3 (by have := H_hg.out; omega)⟩

theorem FixMax1_idle (p q : Addr) (w : World) :
    CallsD Tryz.prog 77 #[.pointer (some p), .pointer (some q)] .returning w fun e u' w' => e = .returned (.tuple #[]) ∧ u' = .returning ∧ w' = w := by
  refine callsD_of_wpS Tryz.func77 rfl fun c₀ cs hu => ?_
  apply wpS_seq
  apply wpS_region
  simp [wpOpsS, go_sem, recoverD, hu, Tryz.ntmps77, Exit.thenS]
  refine wpS_cond (t := false) (by simp [Act.eval, Array.replicate]) ?_
  simp only [Bool.false_eq_true, if_false]
  refine wpS_of_wp (wp_skip ?_)
  cases c₀
  simp_all [bodyPostS, results, Tryz.results77]

set_option maxRecDepth 20000 in
set_option maxHeartbeats 2000000 in
theorem FixMax_any (na nb nz : Bool) (s c s2 c2 sz cz : Nat) (w : World) (hs : s ≤ 19) (hc : c ≤ 9999999999999999999) (hs2 : s2 ≤ 19) (hc2 : c2 ≤ 9999999999999999999) (hsz : sz ≤ 19)
    (hm : ∀ W, Fresh w W → Calls Tryz.prog 78 #[gd (na && decide (0 < c)) s c, gd (nb && decide (0 < c2)) s2 c2] W (VRet W (gd nz sz cz))) :
    Calls Tryz.prog 38 #[fx na c s, fx nb c2 s2] w (VRet w (.tuple #[fx nz cz sz, .int .i64 0])) := by
  have hmf : ∀ (fn : Fn) (first cap : Array Value) (w : World), (Instr.makeFunc fn first cap).run Tryz.prog w = .ok (.func fn first cap) w := fun _ _ _ _ => rfl
  obtain ⟨na', hna⟩ : ∃ n, n = (na && decide (0 < c)) := ⟨_, rfl⟩
  obtain ⟨nb', hnb⟩ : ∃ n, n = (nb && decide (0 < c2)) := ⟨_, rfl⟩
  rw [← hna, ← hnb] at hm
  have H_hm := Lib.hid hm; clear hm
  have H_hna := Lib.hid hna; clear hna
  have H_hnb := Lib.hid hnb; clear hnb
  go_enter_defers Tryz.func38, Tryz.ntmps38
  go_wp2_with (fail)
  obtain ⟨g, hg⟩ : ∃ g, g = w.heap.size := ⟨_, rfl⟩
  have bx := boxes4 w #[.bool na, .int .u64 c, .int .i64 s] #[.bool nb, .int .u64 c2, .int .i64 s2] #[.bool false, .int .u64 0, .int .i64 0] #[.int .i64 0] 24 24 24 3 g hg
  have H_bx := Lib.hid bx
  clear bx
  generalize hw1 : (((w.alloc _).alloc _).alloc _).alloc _ = w1
  rw [← hg]
  obtain ⟨b1, b2, b3, b4, hf⟩ := H_bx.out w1 hw1
  have H_b1 := Lib.hid b1; clear b1
  have H_b2 := Lib.hid b2; clear b2
  have H_b3 := Lib.hid b3; clear b3
  have H_b4 := Lib.hid b4; clear b4
  have H_hf := Lib.hid hf; clear hf
  have H_hw1 := Lib.hid hw1; clear hw1
  have H_hg := Lib.hid hg; clear hg
  refine (fixed_any na s c _ hs hc).mono ?_
  rintro e w2 ⟨rfl, hf2⟩
  have H_hf2 := Lib.hid hf2
  clear hf2
  rw [← H_hna.out]
  have d2 := row_fresh H_b2.out H_hf2.out
  obtain ⟨h, hh⟩ : ∃ h, h = w2.heap.size := ⟨_, rfl⟩
  have hlt : g + 1 < h := by
    rw [hh]
    rcases Nat.lt_or_ge (g + 1) w2.heap.size with h | h
    · exact h
    · rw [Array.getElem?_eq_none h] at d2; cases d2
  have k0 := row_cell d2 0
  have k1 := row_cell d2 1
  have k2 := row_cell d2 2
  simp at k0 k1 k2
  have a0 := fun o => cell_fresh k0 ((Keep.refl (fun _ => False) w2).alloc o)
  have a1 := fun o => cell_fresh k1 ((Keep.refl (fun _ => False) w2).alloc o)
  have a2 := fun o => cell_fresh k2 ((Keep.refl (fun _ => False) w2).alloc o)
  clear k0 k1 k2
  have H_d2 := Lib.hid d2; clear d2
  have H_hh := Lib.hid hh; clear hh
  have H_hlt := Lib.hid hlt; clear hlt
  go_wp2_with (fail)
  generalize hw3 : w2.alloc _ = w3
  have hf3 : Fresh w2 w3 := by rw [← hw3]; exact (Keep.refl _ _).alloc _
  have e1 : w3.heap[h]? = some (.cells #[.bool na', .int .i8 s, .int .u64 c] 62 (0, 0)) := by rw [← hw3, H_hh.out]; exact heap_alloc_new w2 _
  rw [← H_hh.out]
  clear a0 a1 a2
  have H_hw3 := Lib.hid hw3; clear hw3
  have H_hf3 := Lib.hid hf3; clear hf3
  have H_e1 := Lib.hid e1; clear e1
  refine (fixed_any nb s2 c2 _ hs2 hc2).mono ?_
  rintro e w4 ⟨rfl, hf4⟩
  rw [← H_hnb.out]
  have e2 := row_fresh H_e1.out hf4
  have hlt2 : h < w4.heap.size := by
    rcases Nat.lt_or_ge h w4.heap.size with h | h
    · exact h
    · rw [Array.getElem?_eq_none h] at e2; cases e2
  have k0 := row_cell e2 0
  have k1 := row_cell e2 1
  have k2 := row_cell e2 2
  simp at k0 k1 k2
  have a0 := fun o => cell_fresh k0 ((Keep.refl (fun _ => False) w4).alloc o)
  have a1 := fun o => cell_fresh k1 ((Keep.refl (fun _ => False) w4).alloc o)
  have a2 := fun o => cell_fresh k2 ((Keep.refl (fun _ => False) w4).alloc o)
  clear k0 k1 k2
  have H_hf4 := Lib.hid hf4; clear hf4
  have H_e2 := Lib.hid e2; clear e2
  have H_hlt2 := Lib.hid hlt2; clear hlt2
  go_wp2_with (fail)
  generalize hw5 : w4.alloc _ = w5
  have hf5 : Fresh w4 w5 := by rw [← hw5]; exact (Keep.refl _ _).alloc _
  have f15 : Fresh w w5 := fresh_trans H_hf.out (fresh_trans (fresh_trans (fresh_trans H_hf2.out H_hf3.out) H_hf4.out) hf5)
  have H_hw5 := Lib.hid hw5; clear hw5
  have H_hf5 := Lib.hid hf5; clear hf5
  have H_f15 := Lib.hid f15; clear f15
  clear a0 a1 a2
  refine (H_hm.out _ H_f15.out).mono ?_
  rintro e w6 ⟨rfl, hf6⟩
  have H_hf6 := Lib.hid hf6
  clear hf6
  go_wp2_with (fail)
  refine (fix_any nz sz cz _ hsz).mono ?_
  rintro e w7 ⟨rfl, hf7⟩
  have hfa : Fresh w1 w7 := fresh_trans (fresh_trans (fresh_trans (fresh_trans (fresh_trans H_hf2.out H_hf3.out) H_hf4.out) H_hf5.out) H_hf6.out) hf7
  have c2' := row_fresh H_b3.out hfa
  have c3 := row_fresh H_b4.out hfa
  have p0 := row_cell c2' 0
  have p1 := row_cell c2' 1
  have p2 := row_cell c2' 2
  have p3 := row_cell c3 0
  simp at p0 p1 p2 p3
  have q0 : w7.frozen? ⟨g + 1 + 1, 0, none⟩ = false := frozen_of_row _ _ _ _ _ c2'
  have q1 : w7.frozen? ⟨g + 1 + 1, 1, none⟩ = false := frozen_of_row _ _ _ _ _ c2'
  have q2 : w7.frozen? ⟨g + 1 + 1, 2, none⟩ = false := frozen_of_row _ _ _ _ _ c2'
  have q3 : w7.frozen? ⟨g + 1 + 1 + 1, 0, none⟩ = false := frozen_of_row _ _ _ _ _ c3
  have H_hf7 := Lib.hid hf7; clear hf7
  have H_hfa := Lib.hid hfa; clear hfa
  have H_c2' := Lib.hid c2'; clear c2'
  have H_c3 := Lib.hid c3; clear c3
  go_wp2_with (fail)
  refine leaves_cons (f := 77) (args := #[.pointer (some ⟨g + 1 + 1, 0, none⟩), .pointer (some ⟨g + 1 + 1 + 1, 0, none⟩)]) (by simp) (by simp [go_sem]) ?_
  refine (FixMax1_idle _ _ _).mono ?_
  rintro e u' w'' ⟨rfl, rfl, rfl⟩
  have c4 : (w7.setCell ⟨g + 1 + 1, 0, none⟩ (.bool nz)).heap[g + 1 + 1]? = _ := row_set H_c2'.out
  have c5 := row_set (i := 1) (v := .int .u64 cz) c4
  have c6 := row_set (i := 2) (v := .int .i64 sz) c5
  refine ⟨.tuple #[fx nz cz sz, .int .i64 0], results_cell_cell rfl _ _ (g + 1 + 1) 24 #[.bool nz, .int .u64 cz, .int .i64 sz] (0, 0) _ (g + 1 + 1 + 1) _ rfl rfl ?_ Tryz.underlying24 rfl (by kernel_rfl) ?_, ?_⟩
  · rw [row_far (by omega)]; exact c6
  · have hcell : ((((w7.setCell ⟨g + 1 + 1, 0, none⟩ (.bool nz)).setCell ⟨g + 1 + 1, 1, none⟩ (.int .u64 cz)).setCell ⟨g + 1 + 1, 2, none⟩ (.int .i64 sz)).setCell ⟨g + 1 + 1 + 1, 0, none⟩ (.int .i64 0)).cell? ⟨g + 1 + 1 + 1, 0, none⟩ = some (.int .i64 0) :=
      cell?_setCell_eq rfl (by rw [far3 (by omega) p3]; rfl)
    simp [loadVar, go_sem, hcell]
  · refine ⟨rfl, ((fresh_trans H_hf.out H_hfa.out).set3 (by have := H_hg.out; omega)).setCell (fun h => by have := H_hg.out; change g + 1 + 1 + 1 < w.heap.size at h; omega) _⟩

theorem FixMin1_idle (p q : Addr) (w : World) :
    CallsD Tryz.prog 79 #[.pointer (some p), .pointer (some q)] .returning w fun e u' w' => e = .returned (.tuple #[]) ∧ u' = .returning ∧ w' = w := by
  refine callsD_of_wpS Tryz.func79 rfl fun c₀ cs hu => ?_
  apply wpS_seq
  apply wpS_region
  simp [wpOpsS, go_sem, recoverD, hu, Tryz.ntmps79, Exit.thenS]
  refine wpS_cond (t := false) (by simp [Act.eval, Array.replicate]) ?_
  simp only [Bool.false_eq_true, if_false]
  refine wpS_of_wp (wp_skip ?_)
  cases c₀
  simp_all [bodyPostS, results, Tryz.results79]

set_option maxRecDepth 20000 in
set_option maxHeartbeats 2000000 in
theorem FixMin_any (na nb nz : Bool) (s c s2 c2 sz cz : Nat) (w : World) (hs : s ≤ 19) (hc : c ≤ 9999999999999999999) (hs2 : s2 ≤ 19) (hc2 : c2 ≤ 9999999999999999999) (hsz : sz ≤ 19)
    (hm : ∀ W, Fresh w W → Calls Tryz.prog 80 #[gd (na && decide (0 < c)) s c, gd (nb && decide (0 < c2)) s2 c2] W (VRet W (gd nz sz cz))) :
    Calls Tryz.prog 39 #[fx na c s, fx nb c2 s2] w (VRet w (.tuple #[fx nz cz sz, .int .i64 0])) := by
  have hmf : ∀ (fn : Fn) (first cap : Array Value) (w : World), (Instr.makeFunc fn first cap).run Tryz.prog w = .ok (.func fn first cap) w := fun _ _ _ _ => rfl
  obtain ⟨na', hna⟩ : ∃ n, n = (na && decide (0 < c)) := ⟨_, rfl⟩
  obtain ⟨nb', hnb⟩ : ∃ n, n = (nb && decide (0 < c2)) := ⟨_, rfl⟩
  rw [← hna, ← hnb] at hm
  have H_hm := Lib.hid hm; clear hm
  have H_hna := Lib.hid hna; clear hna
  have H_hnb := Lib.hid hnb; clear hnb
  go_enter_defers Tryz.func39, Tryz.ntmps39
  go_wp2_with (fail)
  obtain ⟨g, hg⟩ : ∃ g, g = w.heap.size := ⟨_, rfl⟩
  have bx := boxes4 w #[.bool na, .int .u64 c, .int .i64 s] #[.bool nb, .int .u64 c2, .int .i64 s2] #[.bool false, .int .u64 0, .int .i64 0] #[.int .i64 0] 24 24 24 3 g hg
  have H_bx := Lib.hid bx
  clear bx
  generalize hw1 : (((w.alloc _).alloc _).alloc _).alloc _ = w1
  rw [← hg]
  obtain ⟨b1, b2, b3, b4, hf⟩ := H_bx.out w1 hw1
  have H_b1 := Lib.hid b1; clear b1
  have H_b2 := Lib.hid b2; clear b2
  have H_b3 := Lib.hid b3; clear b3
  have H_b4 := Lib.hid b4; clear b4
  have H_hf := Lib.hid hf; clear hf
  have H_hw1 := Lib.hid hw1; clear hw1
  have H_hg := Lib.hid hg; clear hg
  refine (fixed_any na s c _ hs hc).mono ?_
  rintro e w2 ⟨rfl, hf2⟩
  have H_hf2 := Lib.hid hf2
  clear hf2
  rw [← H_hna.out]
  have d2 := row_fresh H_b2.out H_hf2.out
  obtain ⟨h, hh⟩ : ∃ h, h = w2.heap.size := ⟨_, rfl⟩
  have hlt : g + 1 < h := by
    rw [hh]
    rcases Nat.lt_or_ge (g + 1) w2.heap.size with h | h
    · exact h
    · rw [Array.getElem?_eq_none h] at d2; cases d2
  have k0 := row_cell d2 0
  have k1 := row_cell d2 1
  have k2 := row_cell d2 2
  simp at k0 k1 k2
  have a0 := fun o => cell_fresh k0 ((Keep.refl (fun _ => False) w2).alloc o)
  have a1 := fun o => cell_fresh k1 ((Keep.refl (fun _ => False) w2).alloc o)
  have a2 := fun o => cell_fresh k2 ((Keep.refl (fun _ => False) w2).alloc o)
  clear k0 k1 k2
  have H_d2 := Lib.hid d2; clear d2
  have H_hh := Lib.hid hh; clear hh
  have H_hlt := Lib.hid hlt; clear hlt
  go_wp2_with (fail)
  generalize hw3 : w2.alloc _ = w3
  have hf3 : Fresh w2 w3 := by rw [← hw3]; exact (Keep.refl _ _).alloc _
  have e1 : w3.heap[h]? = some (.cells #[.bool na', .int .i8 s, .int .u64 c] 62 (0, 0)) := by rw [← hw3, H_hh.out]; exact heap_alloc_new w2 _
  rw [← H_hh.out]
  clear a0 a1 a2
  have H_hw3 := Lib.hid hw3; clear hw3
  have H_hf3 := Lib.hid hf3; clear hf3
  have H_e1 := Lib.hid e1; clear e1
  refine (fixed_any nb s2 c2 _ hs2 hc2).mono ?_
  rintro e w4 ⟨rfl, hf4⟩
  rw [← H_hnb.out]
  have e2 := row_fresh H_e1.out hf4
  have hlt2 : h < w4.heap.size := by
    rcases Nat.lt_or_ge h w4.heap.size with h | h
    · exact h
    · rw [Array.getElem?_eq_none h] at e2; cases e2
  have k0 := row_cell e2 0
  have k1 := row_cell e2 1
  have k2 := row_cell e2 2
  simp at k0 k1 k2
  have a0 := fun o => cell_fresh k0 ((Keep.refl (fun _ => False) w4).alloc o)
  have a1 := fun o => cell_fresh k1 ((Keep.refl (fun _ => False) w4).alloc o)
  have a2 := fun o => cell_fresh k2 ((Keep.refl (fun _ => False) w4).alloc o)
  clear k0 k1 k2
  have H_hf4 := Lib.hid hf4; clear hf4
  have H_e2 := Lib.hid e2; clear e2
  have H_hlt2 := Lib.hid hlt2; clear hlt2
  go_wp2_with (fail)
  generalize hw5 : w4.alloc _ = w5
  have hf5 : Fresh w4 w5 := by rw [← hw5]; exact (Keep.refl _ _).alloc _
  have f15 : Fresh w w5 := fresh_trans H_hf.out (fresh_trans (fresh_trans (fresh_trans H_hf2.out H_hf3.out) H_hf4.out) hf5)
  have H_hw5 := Lib.hid hw5; clear hw5
  have H_hf5 := Lib.hid hf5; clear hf5
  have H_f15 := Lib.hid f15; clear f15
  clear a0 a1 a2
  refine (H_hm.out _ H_f15.out).mono ?_
  rintro e w6 ⟨rfl, hf6⟩
  have H_hf6 := Lib.hid hf6
  clear hf6
  go_wp2_with (fail)
  refine (fix_any nz sz cz _ hsz).mono ?_
  rintro e w7 ⟨rfl, hf7⟩
  have hfa : Fresh w1 w7 := fresh_trans (fresh_trans (fresh_trans (fresh_trans (fresh_trans H_hf2.out H_hf3.out) H_hf4.out) H_hf5.out) H_hf6.out) hf7
  have c2' := row_fresh H_b3.out hfa
  have c3 := row_fresh H_b4.out hfa
  have p0 := row_cell c2' 0
  have p1 := row_cell c2' 1
  have p2 := row_cell c2' 2
  have p3 := row_cell c3 0
  simp at p0 p1 p2 p3
  have q0 : w7.frozen? ⟨g + 1 + 1, 0, none⟩ = false := frozen_of_row _ _ _ _ _ c2'
  have q1 : w7.frozen? ⟨g + 1 + 1, 1, none⟩ = false := frozen_of_row _ _ _ _ _ c2'
  have q2 : w7.frozen? ⟨g + 1 + 1, 2, none⟩ = false := frozen_of_row _ _ _ _ _ c2'
  have q3 : w7.frozen? ⟨g + 1 + 1 + 1, 0, none⟩ = false := frozen_of_row _ _ _ _ _ c3
  have H_hf7 := Lib.hid hf7; clear hf7
  have H_hfa := Lib.hid hfa; clear hfa
  have H_c2' := Lib.hid c2'; clear c2'
  have H_c3 := Lib.hid c3; clear c3
  go_wp2_with (fail)
  refine leaves_cons (f := 79) (args := #[.pointer (some ⟨g + 1 + 1, 0, none⟩), .pointer (some ⟨g + 1 + 1 + 1, 0, none⟩)]) (by simp) (by simp [go_sem]) ?_
  refine (FixMin1_idle _ _ _).mono ?_
  rintro e u' w'' ⟨rfl, rfl, rfl⟩
  have c4 : (w7.setCell ⟨g + 1 + 1, 0, none⟩ (.bool nz)).heap[g + 1 + 1]? = _ := row_set H_c2'.out
  have c5 := row_set (i := 1) (v := .int .u64 cz) c4
  have c6 := row_set (i := 2) (v := .int .i64 sz) c5
  refine ⟨.tuple #[fx nz cz sz, .int .i64 0], results_cell_cell rfl _ _ (g + 1 + 1) 24 #[.bool nz, .int .u64 cz, .int .i64 sz] (0, 0) _ (g + 1 + 1 + 1) _ rfl rfl ?_ Tryz.underlying24 rfl (by kernel_rfl) ?_, ?_⟩
  · rw [row_far (by omega)]; exact c6
  · have hcell : ((((w7.setCell ⟨g + 1 + 1, 0, none⟩ (.bool nz)).setCell ⟨g + 1 + 1, 1, none⟩ (.int .u64 cz)).setCell ⟨g + 1 + 1, 2, none⟩ (.int .i64 sz)).setCell ⟨g + 1 + 1 + 1, 0, none⟩ (.int .i64 0)).cell? ⟨g + 1 + 1 + 1, 0, none⟩ = some (.int .i64 0) :=
      cell?_setCell_eq rfl (by rw [far3 (by omega) p3]; rfl)
    simp [loadVar, go_sem, hcell]
  · refine ⟨rfl, ((fresh_trans H_hf.out H_hfa.out).set3 (by have := H_hg.out; omega)).setCell (fun h => by have := H_hg.out; change g + 1 + 1 + 1 < w.heap.size at h; omega) _⟩

end Go.Proofs.YtibaeafmgncjdaaGreatDoor
