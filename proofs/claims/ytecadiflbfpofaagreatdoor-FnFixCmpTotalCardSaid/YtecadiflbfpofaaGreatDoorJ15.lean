/- The contracts of the thin package: FixMinScale, FixIsInt. -/
import Derived.Test.YtecadiflbfpofaaGreatDoorJ11
import Derived.Test.YtecadiflbfpofaaGreatDoorJ13
namespace Go.Proofs.YtecadiflbfpofaaGreatDoor
open Go.RowKit

theorem results_two_cells {P : Program} {fn : Func} {p q : Tmp} {ty ty' : TypeId} (h : fn.results = #[.cell p ty, .cell q ty']) (tmps : Array Value) (w : World) (g g' : Nat) (u v : Value)
    (hp : tmps.getD p undef = .pointer (some ⟨g, 0, none⟩)) (hq : tmps.getD q undef = .pointer (some ⟨g', 0, none⟩))
    (hu : (loadVar ty ⟨g, 0, none⟩).run P w = .ok u w) (hv : (loadVar ty' ⟨g', 0, none⟩).run P w = .ok v w) :
    (results fn tmps).run P w = .ok (.tuple #[u, v]) w := by
  have hp' : tmps[p]?.getD undef = .pointer (some ⟨g, 0, none⟩) := by simpa using hp
  have hq' : tmps[q]?.getD undef = .pointer (some ⟨g', 0, none⟩) := by simpa using hq
  simp [results, h, hp', hq', asAddr, hu, hv, Sem.run_bind, Result.andThen]

end Go.Proofs.YtecadiflbfpofaaGreatDoor

/- The contracts of the thin package over two decimals: FixCmpTotal. -/
namespace Go.Proofs.YtecadiflbfpofaaGreatDoor
open Go.RowKit

theorem FixCmpTotal1_idle (p q : Addr) (w : World) :
    CallsD Tryz.prog 58 #[.pointer (some p), .pointer (some q)] .returning w fun e u' w' => e = .returned (.tuple #[]) ∧ u' = .returning ∧ w' = w := by
  refine callsD_of_wpS Tryz.func58 rfl fun c₀ cs hu => ?_
  apply wpS_seq
  apply wpS_region
  simp [wpOpsS, go_sem, recoverD, hu, Tryz.ntmps58, Exit.thenS]
  refine wpS_cond (t := false) (by simp [Act.eval, Array.replicate]) ?_
  simp only [Bool.false_eq_true, if_false]
  refine wpS_of_wp (wp_skip ?_)
  cases c₀
  simp_all [bodyPostS, results, Tryz.results58]

set_option maxRecDepth 20000 in
set_option maxHeartbeats 2000000 in
theorem FixCmpTotal_any (na nb : Bool) (s c s2 c2 : Nat) (z : Int) (w : World) (hs : s ≤ 19) (hc : c ≤ 9999999999999999999) (hs2 : s2 ≤ 19) (hc2 : c2 ≤ 9999999999999999999)
    (hm : ∀ W, Fresh w W → Calls Tryz.prog 59 #[gd (na && decide (0 < c)) s c, gd (nb && decide (0 < c2)) s2 c2] W (VRet W (.int .i64 z))) :
    Calls Tryz.prog 25 #[fx na c s, fx nb c2 s2] w (VRet w (.tuple #[.int .i64 z, .int .i64 0])) := by
  have hmf : ∀ (fn : Fn) (first cap : Array Value) (w : World), (Instr.makeFunc fn first cap).run Tryz.prog w = .ok (.func fn first cap) w := fun _ _ _ _ => rfl
  obtain ⟨na', hna⟩ : ∃ n, n = (na && decide (0 < c)) := ⟨_, rfl⟩
  obtain ⟨nb', hnb⟩ : ∃ n, n = (nb && decide (0 < c2)) := ⟨_, rfl⟩
  rw [← hna, ← hnb] at hm
  have H_hm := Lib.hid hm; clear hm
  have H_hna := Lib.hid hna; clear hna
  have H_hnb := Lib.hid hnb; clear hnb
  go_enter_defers Tryz.func25, Tryz.ntmps25
  go_wp2_with (fail)
  obtain ⟨g, hg⟩ : ∃ g, g = w.heap.size := ⟨_, rfl⟩
  have bx := boxes4 w #[.bool na, .int .u64 c, .int .i64 s] #[.bool nb, .int .u64 c2, .int .i64 s2] #[.int .i64 0] #[.int .i64 0] 24 24 3 3 g hg
  have H_bx := Lib.hid bx
  clear bx
  generalize hw1 : (((w.alloc _).alloc _).alloc _).alloc _ = w1
  rw [← hg]
  obtain ⟨b1, b2, b3, b4, hf⟩ := H_bx.out w1 hw1
  have H_b1 := Lib.hid b1; clear b1
  have H_b2 := Lib.hid b2; clear b2
  have H_b3 := Lib.hid b3; clear b3
  have H_b4 := Lib.hid b4; clear b4
  have H_hf := Lib.hid hf; clear hf
  have H_hw1 := Lib.hid hw1; clear hw1
  have H_hg := Lib.hid hg; clear hg
  refine (fixed_any na s c _ hs hc).mono ?_
  rintro e w2 ⟨rfl, hf2⟩
  have H_hf2 := Lib.hid hf2
  clear hf2
  rw [← H_hna.out]
  have d2 := row_fresh H_b2.out H_hf2.out
  obtain ⟨h, hh⟩ : ∃ h, h = w2.heap.size := ⟨_, rfl⟩
  have hlt : g + 1 < h := by
    rw [hh]
    rcases Nat.lt_or_ge (g + 1) w2.heap.size with h | h
    · exact h
    · rw [Array.getElem?_eq_none h] at d2; cases d2
  have k0 := row_cell d2 0
  have k1 := row_cell d2 1
  have k2 := row_cell d2 2
  simp at k0 k1 k2
  have a0 := fun o => cell_fresh k0 ((Keep.refl (fun _ => False) w2).alloc o)
  have a1 := fun o => cell_fresh k1 ((Keep.refl (fun _ => False) w2).alloc o)
  have a2 := fun o => cell_fresh k2 ((Keep.refl (fun _ => False) w2).alloc o)
  clear k0 k1 k2
  have H_d2 := Lib.hid d2; clear d2
  have H_hh := Lib.hid hh; clear hh
  have H_hlt := Lib.hid hlt; clear hlt
  go_wp2_with (fail)
  generalize hw3 : w2.alloc _ = w3
  have hf3 : Fresh w2 w3 := by rw [← hw3]; exact (Keep.refl _ _).alloc _
  have e1 : w3.heap[h]? = some (.cells #[.bool na', .int .i8 s, .int .u64 c] 65 (0, 0)) := by rw [← hw3, H_hh.out]; exact heap_alloc_new w2 _
  rw [← H_hh.out]
  clear a0 a1 a2
  have H_hw3 := Lib.hid hw3; clear hw3
  have H_hf3 := Lib.hid hf3; clear hf3
  have H_e1 := Lib.hid e1; clear e1
  refine (fixed_any nb s2 c2 _ hs2 hc2).mono ?_
  rintro e w4 ⟨rfl, hf4⟩
  rw [← H_hnb.out]
  have e2 := row_fresh H_e1.out hf4
  have hlt2 : h < w4.heap.size := by
    rcases Nat.lt_or_ge h w4.heap.size with h | h
    · exact h
    · rw [Array.getElem?_eq_none h] at e2; cases e2
  have k0 := row_cell e2 0
  have k1 := row_cell e2 1
  have k2 := row_cell e2 2
  simp at k0 k1 k2
  have a0 := fun o => cell_fresh k0 ((Keep.refl (fun _ => False) w4).alloc o)
  have a1 := fun o => cell_fresh k1 ((Keep.refl (fun _ => False) w4).alloc o)
  have a2 := fun o => cell_fresh k2 ((Keep.refl (fun _ => False) w4).alloc o)
  clear k0 k1 k2
  have H_hf4 := Lib.hid hf4; clear hf4
  have H_e2 := Lib.hid e2; clear e2
  have H_hlt2 := Lib.hid hlt2; clear hlt2
  go_wp2_with (fail)
  generalize hw5 : w4.alloc _ = w5
  have hf5 : Fresh w4 w5 := by rw [← hw5]; exact (Keep.refl _ _).alloc _
  clear a0 a1 a2
  have f15 : Fresh w1 w5 := fresh_trans (fresh_trans (fresh_trans H_hf2.out H_hf3.out) H_hf4.out) hf5
  have H_hw5 := Lib.hid hw5; clear hw5
  have H_hf5 := Lib.hid hf5; clear hf5
  have H_f15 := Lib.hid f15; clear f15
  refine (H_hm.out w5 (fresh_trans H_hf.out H_f15.out)).mono ?_
  rintro e w6 ⟨rfl, hf6⟩
  have hfa : Fresh w1 w6 := fresh_trans H_f15.out hf6
  have c2' := row_fresh H_b3.out hfa
  have c3 := row_fresh H_b4.out hfa
  have p0 := row_cell c2' 0
  have p3 := row_cell c3 0
  simp at p0 p3
  have q0 : w6.frozen? ⟨g + 1 + 1, 0, none⟩ = false := frozen_of_row _ _ _ _ _ c2'
  have q3 : w6.frozen? ⟨g + 1 + 1 + 1, 0, none⟩ = false := frozen_of_row _ _ _ _ _ c3
  have H_hf6 := Lib.hid hf6; clear hf6
  have H_hfa := Lib.hid hfa; clear hfa
  have H_c2' := Lib.hid c2'; clear c2'
  have H_c3 := Lib.hid c3; clear c3
  go_wp2_with (fail)
  refine leaves_cons (f := 58) (args := #[.pointer (some ⟨g + 1 + 1, 0, none⟩), .pointer (some ⟨g + 1 + 1 + 1, 0, none⟩)]) (by simp) (by simp [go_sem]) ?_
  refine (FixCmpTotal1_idle _ _ _).mono ?_
  rintro e u' w'' ⟨rfl, rfl, rfl⟩
  have c4 : (w6.setCell ⟨g + 1 + 1, 0, none⟩ (.int .i64 z)).cell? ⟨g + 1 + 1, 0, none⟩ = some (.int .i64 z) := cell?_setCell_eq rfl (by rw [p0]; rfl)
  have c5 : ((w6.setCell ⟨g + 1 + 1, 0, none⟩ (.int .i64 z)).setCell ⟨g + 1 + 1 + 1, 0, none⟩ (.int .i64 0)).cell? ⟨g + 1 + 1, 0, none⟩ = some (.int .i64 z) := by
    rw [cell?_setCell_ne (.inl (by show g + 1 + 1 ≠ g + 1 + 1 + 1; omega))]; exact c4
  have c6 : ((w6.setCell ⟨g + 1 + 1, 0, none⟩ (.int .i64 z)).setCell ⟨g + 1 + 1 + 1, 0, none⟩ (.int .i64 0)).cell? ⟨g + 1 + 1 + 1, 0, none⟩ = some (.int .i64 0) :=
    cell?_setCell_eq rfl (by rw [cell?_setCell_ne (.inl (by show g + 1 + 1 + 1 ≠ g + 1 + 1; omega)), p3]; rfl)
  refine ⟨.tuple #[.int .i64 z, .int .i64 0], results_two_cells rfl _ _ (g + 1 + 1) (g + 1 + 1 + 1) _ _ rfl rfl (by simp [loadVar, go_sem, c5]) (by simp [loadVar, go_sem, c6]), ?_⟩
  exact ⟨rfl, ((fresh_trans H_hf.out H_hfa.out).setCell (fun h => by have := H_hg.out; change g + 1 + 1 < w.heap.size at h; omega) _).setCell (fun h => by have := H_hg.out; change g + 1 + 1 + 1 < w.heap.size at h; omega) _⟩

end Go.Proofs.YtecadiflbfpofaaGreatDoor

/- gvLives: 1.5 and 2 are 3.5. -/
namespace Go.Proofs.YtecadiflbfpofaaGreatDoor
open Go.RowKit

theorem lsh_lives (w : World) : Calls Tryz.prog 83 #[.int .u64 2, .int .i64 1] w (fun e w' => e = .returned (.tuple #[.int .u64 20, .bool true]) ∧ w' = w) := by
  go_enter Tryz.func83, Tryz.ntmps83
  go_wp2
  go_ret2
  exact ⟨rfl, rfl⟩

theorem add_lives (w : World) : Calls Tryz.prog 105 #[.int .u64 15, .int .u64 20] w (fun e w' => e = .returned (.tuple #[.int .u64 35, .bool true]) ∧ w' = w) := by
  go_enter Tryz.func105, Tryz.ntmps105
  go_wp2
  go_ret2
  exact ⟨rfl, rfl⟩

theorem newFromFint_lives (w : World) : Calls Tryz.prog 107 #[.bool false, .int .u64 35, .int .i64 1, .int .i64 0] w (VRet w (.tuple #[gd false 1 35, .nilIface])) := by
  go_enter Tryz.func107, Tryz.ntmps107
  go_wp2_with (fail)
  refine (newSafe_any false 1 35 _ (by omega) (by omega)).mono ?_
  rintro e w2 ⟨rfl, hf⟩
  have b := row_fresh (heap_alloc_new w _) hf
  have p0 := row_cell b 0
  have p1 := row_cell b 1
  have p2 := row_cell b 2
  simp at p0 p1 p2
  have q0 : w2.frozen? ⟨w.heap.size, 0, none⟩ = false := frozen_of_row _ _ _ _ _ b
  have q1 : w2.frozen? ⟨w.heap.size, 1, none⟩ = false := frozen_of_row _ _ _ _ _ b
  have q2 : w2.frozen? ⟨w.heap.size, 2, none⟩ = false := frozen_of_row _ _ _ _ _ b
  have H_b := Lib.hid b; clear b
  have H_hf := Lib.hid hf; clear hf
  go_wp2_with (fail)
  refine bodyPost_ret (results_cell_tmp_row rfl _ _ w.heap.size 65 #[.bool false, .int .i8 1, .int .u64 35] (0, 0) _ rfl (row_set (row_set (row_set H_b.out))) Tryz.underlying65 rfl (by kernel_rfl)) rfl ?_
  exact ⟨rfl, Fresh.set3 (fresh_trans ((Keep.refl _ _).alloc _) H_hf.out) (Nat.le_refl _)⟩

set_option maxRecDepth 20000 in
set_option maxHeartbeats 2000000 in
theorem addFint_lives (w : World) : Calls Tryz.prog 97 #[gd false 1 15, gd false 0 2, .int .i64 0] w (VRet w (.tuple #[gd false 1 35, .nilIface])) := by
  obtain ⟨g, hg⟩ : ∃ g, g = w.heap.size := ⟨_, rfl⟩
  have bx := boxes3 w #[.bool false, .int .i8 (1 : Nat), .int .u64 (15 : Nat)] #[.bool false, .int .i8 (0 : Nat), .int .u64 (2 : Nat)] #[.bool false, .int .i8 0, .int .u64 0] 65 65 65 g hg
  have H_bx := Lib.hid bx; clear bx
  go_enter Tryz.func97, Tryz.ntmps97
  go_wp2_with (fail)
  generalize hw1 : ((w.alloc _).alloc _).alloc _ = w1
  rw [← hg]
  obtain ⟨b1, b2, b3, hf, hgs⟩ := H_bx.out w1 hw1
  have k0 := row_cell b1 0
  have k1 := row_cell b1 1
  have k2 := row_cell b1 2
  have k3 := row_cell b2 0
  have k4 := row_cell b2 1
  have k5 := row_cell b2 2
  simp at k0 k1 k2 k3 k4 k5
  have H_b1 := Lib.hid b1; clear b1
  have H_b2 := Lib.hid b2; clear b2
  have H_b3 := Lib.hid b3; clear b3
  have H_hf := Lib.hid hf; clear hf
  have H_hw1 := Lib.hid hw1; clear hw1
  have H_hg := Lib.hid hg; clear hg
  have H_hgs := Lib.hid hgs; clear hgs
  refine (Scale_any false 1 15 _ (by omega)).mono ?_
  rintro e w2 ⟨rfl, f2⟩
  have m0 := cell_fresh k0 f2
  have m1 := cell_fresh k1 f2
  have m2 := cell_fresh k2 f2
  have m3 := cell_fresh k3 f2
  have m4 := cell_fresh k4 f2
  have m5 := cell_fresh k5 f2
  clear k0 k1 k2 k3 k4 k5
  have H_f2 := Lib.hid f2
  clear f2
  go_wp2_with (fail)
  refine (IsNeg_any false 1 15 _).mono ?_
  rintro e w3 ⟨rfl, f3⟩
  have n0 := cell_fresh m0 f3
  have n1 := cell_fresh m1 f3
  have n2 := cell_fresh m2 f3
  have n3 := cell_fresh m3 f3
  have n4 := cell_fresh m4 f3
  have n5 := cell_fresh m5 f3
  clear m0 m1 m2 m3 m4 m5
  have H_f3 := Lib.hid f3
  clear f3
  go_wp2_with (fail)
  refine (Scale_any false 0 2 _ (by omega)).mono ?_
  rintro e w4 ⟨rfl, f4⟩
  have o0 := cell_fresh n0 f4
  have o1 := cell_fresh n1 f4
  have o2 := cell_fresh n2 f4
  have o3 := cell_fresh n3 f4
  have o4 := cell_fresh n4 f4
  have o5 := cell_fresh n5 f4
  clear n0 n1 n2 n3 n4 n5
  have H_f4 := Lib.hid f4
  clear f4
  go_wp2_with (fail)
  refine (Scale_any false 0 2 _ (by omega)).mono ?_
  rintro e w5 ⟨rfl, f5⟩
  have u0 := cell_fresh o0 f5
  have u1 := cell_fresh o1 f5
  have u2 := cell_fresh o2 f5
  have u3 := cell_fresh o3 f5
  have u4 := cell_fresh o4 f5
  have u5 := cell_fresh o5 f5
  clear o0 o1 o2 o3 o4 o5
  have H_f5 := Lib.hid f5
  clear f5
  go_wp2_with (fail)
  refine (lsh_lives _).mono ?_
  rintro e _ ⟨rfl, rfl⟩
  go_wp2_with (fail)
  refine (IsNeg_any false 0 2 _).mono ?_
  rintro e w6 ⟨rfl, f6⟩
  have v0 := cell_fresh u0 f6
  have v1 := cell_fresh u1 f6
  have v2 := cell_fresh u2 f6
  have v3 := cell_fresh u3 f6
  have v4 := cell_fresh u4 f6
  have v5 := cell_fresh u5 f6
  clear u0 u1 u2 u3 u4 u5
  have H_f6 := Lib.hid f6
  clear f6
  go_wp2_with (fail)
  refine (add_lives _).mono ?_
  rintro e _ ⟨rfl, rfl⟩
  go_wp2_with (fail)
  refine (newFromFint_lives _).mono ?_
  rintro e w7 ⟨rfl, f7⟩
  have hfa : Fresh w1 w7 := fresh_trans (fresh_trans (fresh_trans (fresh_trans (fresh_trans H_f2.out H_f3.out) H_f4.out) H_f5.out) H_f6.out) f7
  have b4 := row_fresh H_b3.out hfa
  have p0 := row_cell b4 0
  have p1 := row_cell b4 1
  have p2 := row_cell b4 2
  simp at p0 p1 p2
  have q0 : w7.frozen? ⟨g + 1 + 1, 0, none⟩ = false := frozen_of_row _ _ _ _ _ b4
  have q1 : w7.frozen? ⟨g + 1 + 1, 1, none⟩ = false := frozen_of_row _ _ _ _ _ b4
  have q2 : w7.frozen? ⟨g + 1 + 1, 2, none⟩ = false := frozen_of_row _ _ _ _ _ b4
  have H_b4 := Lib.hid b4; clear b4
  have H_hfa := Lib.hid hfa; clear hfa
  have H_f7 := Lib.hid f7; clear f7
  go_wp2_with (fail)
  refine bodyPost_ret (results_cell_tmp_row rfl _ _ (g + 1 + 1) 65 #[.bool false, .int .i8 1, .int .u64 35] (0, 0) _ rfl (row_set (row_set (row_set H_b4.out))) Tryz.underlying65 rfl (by kernel_rfl)) rfl ?_
  exact ⟨rfl, Fresh.set3 (fresh_trans H_hf.out H_hfa.out) (by have := H_hg.out; omega)⟩

end Go.Proofs.YtecadiflbfpofaaGreatDoor

/- gvLives: 1.5 and 2 are 3.5: AddExact, Add. -/
namespace Go.Proofs.YtecadiflbfpofaaGreatDoor
open Go.RowKit

set_option maxRecDepth 20000 in
set_option maxHeartbeats 2000000 in
theorem AddExact_lives (w : World) : Calls Tryz.prog 90 #[gd false 1 15, gd false 0 2, .int .i64 0] w (VRet w (.tuple #[gd false 1 35, .nilIface])) := by
  obtain ⟨g, hg⟩ : ∃ g, g = w.heap.size := ⟨_, rfl⟩
  have bx := boxes3 w #[.bool false, .int .i8 (1 : Nat), .int .u64 (15 : Nat)] #[.bool false, .int .i8 (0 : Nat), .int .u64 (2 : Nat)] #[.bool false, .int .i8 0, .int .u64 0] 65 65 65 g hg
  have H_bx := Lib.hid bx; clear bx
  go_enter Tryz.func90, Tryz.ntmps90
  go_wp2_with (fail)
  generalize hw1 : ((w.alloc _).alloc _).alloc _ = w1
  rw [← hg]
  obtain ⟨b1, b2, b3, hf, hgs⟩ := H_bx.out w1 hw1
  have H_b1 := Lib.hid b1; clear b1
  have H_b2 := Lib.hid b2; clear b2
  have H_b3 := Lib.hid b3; clear b3
  have H_hf := Lib.hid hf; clear hf
  have H_hw1 := Lib.hid hw1; clear hw1
  have H_hg := Lib.hid hg; clear hg
  have H_hgs := Lib.hid hgs; clear hgs
  refine (addFint_lives _).mono ?_
  rintro e w2 ⟨rfl, f2⟩
  have f3 := fresh_trans f2 ((Keep.refl (fun _ => False) w2).alloc (.cells #[.bool false, .int .i8 1, .int .u64 35] 65))
  have b4 := row_fresh H_b3.out f3
  have p0 := row_cell b4 0
  have p1 := row_cell b4 1
  have p2 := row_cell b4 2
  have q0 := frozen_of_row _ _ 0 _ _ b4
  have q1 := frozen_of_row _ _ 1 _ _ b4
  have q2 := frozen_of_row _ _ 2 _ _ b4
  have H_f2 := Lib.hid f2; clear f2
  have H_f3 := Lib.hid f3; clear f3
  have H_b4 := Lib.hid b4; clear b4
  go_wp2_with (fail)
  refine bodyPost_ret (results_cell_tmp_row rfl _ _ (g + 1 + 1) 65 #[.bool false, .int .i8 1, .int .u64 35] (0, 0) _ rfl (row_set (row_set (row_set H_b4.out))) Tryz.underlying65 rfl (by kernel_rfl)) rfl ?_
  exact ⟨rfl, Fresh.set3 (fresh_trans H_hf.out H_f3.out) (by have := H_hg.out; omega)⟩

set_option maxRecDepth 20000 in
set_option maxHeartbeats 2000000 in
theorem Add_lives (w : World) : Calls Tryz.prog 75 #[gd false 1 15, gd false 0 2] w (VRet w (.tuple #[gd false 1 35, .nilIface])) := by
  obtain ⟨g, hg⟩ : ∃ g, g = w.heap.size := ⟨_, rfl⟩
  have bx := boxes3 w #[.bool false, .int .i8 (1 : Nat), .int .u64 (15 : Nat)] #[.bool false, .int .i8 (0 : Nat), .int .u64 (2 : Nat)] #[.bool false, .int .i8 0, .int .u64 0] 65 65 65 g hg
  have H_bx := Lib.hid bx; clear bx
  go_enter Tryz.func75, Tryz.ntmps75
  go_wp2_with (fail)
  generalize hw1 : ((w.alloc _).alloc _).alloc _ = w1
  rw [← hg]
  obtain ⟨b1, b2, b3, hf, hgs⟩ := H_bx.out w1 hw1
  have H_b1 := Lib.hid b1; clear b1
  have H_b2 := Lib.hid b2; clear b2
  have H_b3 := Lib.hid b3; clear b3
  have H_hf := Lib.hid hf; clear hf
  have H_hw1 := Lib.hid hw1; clear hw1
  have H_hg := Lib.hid hg; clear hg
  have H_hgs := Lib.hid hgs; clear hgs
  refine (AddExact_lives _).mono ?_
  rintro e w2 ⟨rfl, f2⟩
  have b4 := row_fresh H_b3.out f2
  have p0 := row_cell b4 0
  have p1 := row_cell b4 1
  have p2 := row_cell b4 2
  simp at p0 p1 p2
  have q0 := frozen_of_row _ _ 0 _ _ b4
  have q1 := frozen_of_row _ _ 1 _ _ b4
  have q2 := frozen_of_row _ _ 2 _ _ b4
  have H_f2 := Lib.hid f2; clear f2
  have H_b4 := Lib.hid b4; clear b4
  go_wp2_with (fail)
  refine bodyPost_ret (results_cell_tmp_row rfl _ _ (g + 1 + 1) 65 #[.bool false, .int .i8 1, .int .u64 35] (0, 0) _ rfl (row_set (row_set (row_set H_b4.out))) Tryz.underlying65 rfl (by kernel_rfl)) rfl ?_
  exact ⟨rfl, Fresh.set3 (fresh_trans H_hf.out H_f2.out) (by have := H_hg.out; omega)⟩

end Go.Proofs.YtecadiflbfpofaaGreatDoor

/- gvLives: 1.5 and 2 are 3.5: FixAdd. -/
namespace Go.Proofs.YtecadiflbfpofaaGreatDoor
open Go.RowKit

theorem FixAdd1_idle (p q : Addr) (w : World) :
    CallsD Tryz.prog 74 #[.pointer (some p), .pointer (some q)] .returning w fun e u' w' => e = .returned (.tuple #[]) ∧ u' = .returning ∧ w' = w := by
  refine callsD_of_wpS Tryz.func74 rfl fun c₀ cs hu => ?_
  apply wpS_seq
  apply wpS_region
  simp [wpOpsS, go_sem, recoverD, hu, Tryz.ntmps74, Exit.thenS]
  refine wpS_cond (t := false) (by simp [Act.eval, Array.replicate]) ?_
  simp only [Bool.false_eq_true, if_false]
  refine wpS_of_wp (wp_skip ?_)
  cases c₀
  simp_all [bodyPostS, results, Tryz.results74]

set_option maxRecDepth 20000 in
set_option maxHeartbeats 2000000 in
theorem FixAdd_lives (w : World) :
    Calls Tryz.prog 46 #[fx false 15 1, fx false 2 0] w (VRet w (.tuple #[fx false 35 1, .int .i64 0])) := by
  have hmf : ∀ (fn : Fn) (first cap : Array Value) (w : World), (Instr.makeFunc fn first cap).run Tryz.prog w = .ok (.func fn first cap) w := fun _ _ _ _ => rfl
  go_enter_defers Tryz.func46, Tryz.ntmps46
  go_wp2_with (fail)
  obtain ⟨g, hg⟩ : ∃ g, g = w.heap.size := ⟨_, rfl⟩
  have bx := boxes4 w #[.bool false, .int .u64 (15 : Nat), .int .i64 (1 : Nat)] #[.bool false, .int .u64 (2 : Nat), .int .i64 (0 : Nat)] #[.bool false, .int .u64 0, .int .i64 0] #[.int .i64 0] 24 24 24 3 g hg
  have H_bx := Lib.hid bx
  clear bx
  generalize hw1 : (((w.alloc _).alloc _).alloc _).alloc _ = w1
  rw [← hg]
  obtain ⟨b1, b2, b3, b4, hf⟩ := H_bx.out w1 hw1
  have H_b1 := Lib.hid b1; clear b1
  have H_b2 := Lib.hid b2; clear b2
  have H_b3 := Lib.hid b3; clear b3
  have H_b4 := Lib.hid b4; clear b4
  have H_hf := Lib.hid hf; clear hf
  have H_hw1 := Lib.hid hw1; clear hw1
  have H_hg := Lib.hid hg; clear hg
  refine (fixed_any false 1 15 _ (by omega) (by omega)).mono ?_
  rintro e w2 ⟨rfl, hf2⟩
  simp only [Bool.false_and]
  have d2 := row_fresh H_b2.out hf2
  have k0 := row_cell d2 0
  have k1 := row_cell d2 1
  have k2 := row_cell d2 2
  simp at k0 k1 k2
  have a0 := fun o => cell_fresh k0 ((Keep.refl (fun _ => False) w2).alloc o)
  have a1 := fun o => cell_fresh k1 ((Keep.refl (fun _ => False) w2).alloc o)
  have a2 := fun o => cell_fresh k2 ((Keep.refl (fun _ => False) w2).alloc o)
  obtain ⟨h, hh⟩ : ∃ h, h = w2.heap.size := ⟨_, rfl⟩
  clear k0 k1 k2
  have H_hf2 := Lib.hid hf2; clear hf2
  have H_d2 := Lib.hid d2; clear d2
  have H_hh := Lib.hid hh; clear hh
  go_wp2_with (fail)
  generalize hw3 : w2.alloc _ = w3
  have hf3 : Fresh w2 w3 := by rw [← hw3]; exact (Keep.refl _ _).alloc _
  have e1 : w3.heap[h]? = some (.cells #[.bool false, .int .i8 (1 : Nat), .int .u64 (15 : Nat)] 65 (0, 0)) := by rw [← hw3, H_hh.out]; exact heap_alloc_new w2 _
  rw [← H_hh.out]
  clear a0 a1 a2
  have H_hw3 := Lib.hid hw3; clear hw3
  have H_hf3 := Lib.hid hf3; clear hf3
  have H_e1 := Lib.hid e1; clear e1
  refine (fixed_any false 0 2 _ (by omega) (by omega)).mono ?_
  rintro e w4 ⟨rfl, hf4⟩
  simp only [Bool.false_and]
  have e2 := row_fresh H_e1.out hf4
  have k0 := row_cell e2 0
  have k1 := row_cell e2 1
  have k2 := row_cell e2 2
  simp at k0 k1 k2
  have a0 := fun o => cell_fresh k0 ((Keep.refl (fun _ => False) w4).alloc o)
  have a1 := fun o => cell_fresh k1 ((Keep.refl (fun _ => False) w4).alloc o)
  have a2 := fun o => cell_fresh k2 ((Keep.refl (fun _ => False) w4).alloc o)
  clear k0 k1 k2
  have H_hf4 := Lib.hid hf4; clear hf4
  have H_e2 := Lib.hid e2; clear e2
  go_wp2_with (fail)
  generalize hw5 : w4.alloc _ = w5
  have hf5 : Fresh w4 w5 := by rw [← hw5]; exact (Keep.refl _ _).alloc _
  have H_hw5 := Lib.hid hw5; clear hw5
  have H_hf5 := Lib.hid hf5; clear hf5
  clear a0 a1 a2
  refine (Add_lives _).mono ?_
  rintro e w6 ⟨rfl, hf6⟩
  have H_hf6 := Lib.hid hf6
  clear hf6
  go_wp2_with (fail)
  generalize hw6 : w6.alloc _ = w6b
  have hf6b : Fresh w6 w6b := by rw [← hw6]; exact (Keep.refl _ _).alloc _
  have H_hw6 := Lib.hid hw6; clear hw6
  have H_hf6b := Lib.hid hf6b; clear hf6b
  refine (fix_any false 1 35 _ (by omega)).mono ?_
  rintro e w7 ⟨rfl, hf7⟩
  have hfa : Fresh w1 w7 := fresh_trans (fresh_trans (fresh_trans (fresh_trans (fresh_trans (fresh_trans H_hf2.out H_hf3.out) H_hf4.out) H_hf5.out) H_hf6.out) H_hf6b.out) hf7
  have c2' := row_fresh H_b3.out hfa
  have c3 := row_fresh H_b4.out hfa
  have p0 := row_cell c2' 0
  have p1 := row_cell c2' 1
  have p2 := row_cell c2' 2
  have p3 := row_cell c3 0
  simp at p0 p1 p2 p3
  have q0 : w7.frozen? ⟨g + 1 + 1, 0, none⟩ = false := frozen_of_row _ _ _ _ _ c2'
  have q1 : w7.frozen? ⟨g + 1 + 1, 1, none⟩ = false := frozen_of_row _ _ _ _ _ c2'
  have q2 : w7.frozen? ⟨g + 1 + 1, 2, none⟩ = false := frozen_of_row _ _ _ _ _ c2'
  have q3 : w7.frozen? ⟨g + 1 + 1 + 1, 0, none⟩ = false := frozen_of_row _ _ _ _ _ c3
  have H_hf7 := Lib.hid hf7; clear hf7
  have H_hfa := Lib.hid hfa; clear hfa
  have H_c2' := Lib.hid c2'; clear c2'
  have H_c3 := Lib.hid c3; clear c3
  go_wp2_with (fail)
  refine leaves_cons (f := 74) (args := #[.pointer (some ⟨g + 1 + 1, 0, none⟩), .pointer (some ⟨g + 1 + 1 + 1, 0, none⟩)]) (by simp) (by simp [go_sem]) ?_
  refine (FixAdd1_idle _ _ _).mono ?_
  rintro e u' w'' ⟨rfl, rfl, rfl⟩
  have c4 : (w7.setCell ⟨g + 1 + 1, 0, none⟩ (.bool false)).heap[g + 1 + 1]? = _ := row_set H_c2'.out
  have c5 := row_set (i := 1) (v := .int .u64 35) c4
  have c6 := row_set (i := 2) (v := .int .i64 1) c5
  refine ⟨.tuple #[fx false 35 1, .int .i64 0], results_cell_cell rfl _ _ (g + 1 + 1) 24 #[.bool false, .int .u64 35, .int .i64 1] (0, 0) _ (g + 1 + 1 + 1) _ rfl rfl ?_ Tryz.underlying24 rfl (by kernel_rfl) ?_, ?_⟩
  · rw [row_far (by omega)]; exact c6
  · have hcell : ((((w7.setCell ⟨g + 1 + 1, 0, none⟩ (.bool false)).setCell ⟨g + 1 + 1, 1, none⟩ (.int .u64 35)).setCell ⟨g + 1 + 1, 2, none⟩ (.int .i64 1)).setCell ⟨g + 1 + 1 + 1, 0, none⟩ (.int .i64 0)).cell? ⟨g + 1 + 1 + 1, 0, none⟩ = some (.int .i64 0) :=
      cell?_setCell_eq rfl (by rw [far3 (by omega) p3]; rfl)
    simp [loadVar, go_sem, hcell]
  · exact ⟨rfl, ((fresh_trans H_hf.out H_hfa.out).set3 (by have := H_hg.out; omega)).setCell (fun h => by have := H_hg.out; change g + 1 + 1 + 1 < w.heap.size at h; omega) _⟩

end Go.Proofs.YtecadiflbfpofaaGreatDoor

/- gvLives: 1.5 and 2 are 3.5. -/
namespace Go.Proofs.YtecadiflbfpofaaGreatDoor
open Go.RowKit

set_option maxRecDepth 20000 in
set_option maxHeartbeats 2000000 in
theorem gvLives_any (w : World) : Calls Tryz.prog 17 #[] w (VRet w (.bool true)) := by
  go_enter Tryz.func17, Tryz.ntmps17
  go_wp2_with (fail)
  refine (FixAdd_lives _).mono ?_
  rintro e w2 ⟨rfl, hf2⟩
  have hf3 := fun o => fresh_trans hf2 ((Keep.refl (fun _ => False) w2).alloc o)
  have H_hf2 := Lib.hid hf2; clear hf2
  have H_hf3 := Lib.hid hf3; clear hf3
  go_wp2_with (fail)
  go_ret
  exact ⟨rfl, H_hf3.out _⟩

end Go.Proofs.YtecadiflbfpofaaGreatDoor
