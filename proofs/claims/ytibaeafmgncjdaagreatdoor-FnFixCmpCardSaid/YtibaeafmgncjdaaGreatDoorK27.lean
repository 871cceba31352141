/- The contracts of the thin package over two decimals: FixCmp, FixCmpAbs, FixEqual, FixLess. -/
import Derived.Test.YtibaeafmgncjdaaGreatDoorK12
namespace Go.Proofs.YtibaeafmgncjdaaGreatDoor
open Go.RowKit

theorem FixCmp1_idle (p q : Addr) (w : World) :
    CallsD Tryz.prog 44 #[.pointer (some p), .pointer (some q)] .returning w fun e u' w' => e = .returned (.tuple #[]) ∧ u' = .returning ∧ w' = w := by
  refine callsD_of_wpS Tryz.func44 rfl fun c₀ cs hu => ?_
  apply wpS_seq
  apply wpS_region
  simp [wpOpsS, go_sem, recoverD, hu, Tryz.ntmps44, Exit.thenS]
  refine wpS_cond (t := false) (by simp [Act.eval, Array.replicate]) ?_
  simp only [Bool.false_eq_true, if_false]
  refine wpS_of_wp (wp_skip ?_)
  cases c₀
  simp_all [bodyPostS, results, Tryz.results44]

set_option maxRecDepth 20000 in
set_option maxHeartbeats 2000000 in
theorem FixCmp_any (na nb : Bool) (s c s2 c2 : Nat) (z : Int) (w : World) (hs : s ≤ 19) (hc : c ≤ 9999999999999999999) (hs2 : s2 ≤ 19) (hc2 : c2 ≤ 9999999999999999999)
    (hm : ∀ W, Fresh w W → Calls Tryz.prog 46 #[gd (na && decide (0 < c)) s c, gd (nb && decide (0 < c2)) s2 c2] W (VRet W (.int .i64 z))) :
    Calls Tryz.prog 15 #[fx na c s, fx nb c2 s2] w (VRet w (.tuple #[.int .i64 z, .int .i64 0])) := by
  have hmf : ∀ (fn : Fn) (first cap : Array Value) (w : World), (Instr.makeFunc fn first cap).run Tryz.prog w = .ok (.func fn first cap) w := fun _ _ _ _ => rfl
  obtain ⟨na', hna⟩ : ∃ n, n = (na && decide (0 < c)) := ⟨_, rfl⟩
  obtain ⟨nb', hnb⟩ : ∃ n, n = (nb && decide (0 < c2)) := ⟨_, rfl⟩
  rw [← hna, ← hnb] at hm
  have H_hm := Lib.hid hm; clear hm
  have H_hna := Lib.hid hna; clear hna
  have H_hnb := Lib.hid hnb; clear hnb
  go_enter_defers Tryz.func15, Tryz.ntmps15
  go_wp2_with (fail)
  obtain ⟨g, hg⟩ : ∃ g, g = w.heap.size := ⟨_, rfl⟩
  have bx := boxes4 w #[.bool na, .int .u64 c, .int .i64 s] #[.bool nb, .int .u64 c2, .int .i64 s2] #[.int .i64 0] #[.int .i64 0] 24 24 3 3 g hg
  have H_bx := Lib.hid bx
  clear bx
  generalize hw1 : (((w.alloc _).alloc _).alloc _).alloc _ = w1
  rw [← hg]
  obtain ⟨b1, b2, b3, b4, hf⟩ := H_bx.out w1 hw1
  have H_b1 := Lib.hid b1; clear b1
  have H_b2 := Lib.hid b2; clear b2
  have H_b3 := Lib.hid b3; clear b3
  have H_b4 := Lib.hid b4; clear b4
  have H_hf := Lib.hid hf; clear hf
  have H_hw1 := Lib.hid hw1; clear hw1
  have H_hg := Lib.hid hg; clear hg
  refine (fixed_any na s c _ hs hc).mono ?_
  rintro e w2 ⟨rfl, hf2⟩
  have H_hf2 := Lib.hid hf2
  clear hf2
  rw [← H_hna.out]
  have d2 := row_fresh H_b2.out H_hf2.out
  obtain ⟨h, hh⟩ : ∃ h, h = w2.heap.size := ⟨_, rfl⟩
  have hlt : g + 1 < h := by
    rw [hh]
    rcases Nat.lt_or_ge (g + 1) w2.heap.size with h | h
    · exact h
    · rw [Array.getElem?_eq_none h] at d2; cases d2
  have k0 := row_cell d2 0
  have k1 := row_cell d2 1
  have k2 := row_cell d2 2
  simp at k0 k1 k2
  have a0 := fun o => cell_fresh k0 ((Keep.refl (fun _ => False) w2).alloc o)
  have a1 := fun o => cell_fresh k1 ((Keep.refl (fun _ => False) w2).alloc o)
  have a2 := fun o => cell_fresh k2 ((Keep.refl (fun _ => False) w2).alloc o)
  clear k0 k1 k2
  have H_d2 := Lib.hid d2; clear d2
  have H_hh := Lib.hid hh; clear hh
  have H_hlt := Lib.hid hlt; clear hlt
  go_wp2_with (fail)
  generalize hw3 : w2.alloc _ = w3
  have hf3 : Fresh w2 w3 := by rw [← hw3]; exact (Keep.refl _ _).alloc _
  have e1 : w3.heap[h]? = some (.cells #[.bool na', .int .i8 s, .int .u64 c] 62 (0, 0)) := by rw [← hw3, H_hh.out]; exact heap_alloc_new w2 _
  rw [← H_hh.out]
  clear a0 a1 a2
  have H_hw3 := Lib.hid hw3; clear hw3
  have H_hf3 := Lib.hid hf3; clear hf3
  have H_e1 := Lib.hid e1; clear e1
  refine (fixed_any nb s2 c2 _ hs2 hc2).mono ?_
  rintro e w4 ⟨rfl, hf4⟩
  rw [← H_hnb.out]
  have e2 := row_fresh H_e1.out hf4
  have hlt2 : h < w4.heap.size := by
    rcases Nat.lt_or_ge h w4.heap.size with h | h
    · exact h
    · rw [Array.getElem?_eq_none h] at e2; cases e2
  have k0 := row_cell e2 0
  have k1 := row_cell e2 1
  have k2 := row_cell e2 2
  simp at k0 k1 k2
  have a0 := fun o => cell_fresh k0 ((Keep.refl (fun _ => False) w4).alloc o)
  have a1 := fun o => cell_fresh k1 ((Keep.refl (fun _ => False) w4).alloc o)
  have a2 := fun o => cell_fresh k2 ((Keep.refl (fun _ => False) w4).alloc o)
  clear k0 k1 k2
  have H_hf4 := Lib.hid hf4; clear hf4
  have H_e2 := Lib.hid e2; clear e2
  have H_hlt2 := Lib.hid hlt2; clear hlt2
  go_wp2_with (fail)
  generalize hw5 : w4.alloc _ = w5
  have hf5 : Fresh w4 w5 := by rw [← hw5]; exact (Keep.refl _ _).alloc _
  clear a0 a1 a2
  have f15 : Fresh w1 w5 := fresh_trans (fresh_trans (fresh_trans H_hf2.out H_hf3.out) H_hf4.out) hf5
  have H_hw5 := Lib.hid hw5; clear hw5
  have H_hf5 := Lib.hid hf5; clear hf5
  have H_f15 := Lib.hid f15; clear f15
  refine (H_hm.out w5 (fresh_trans H_hf.out H_f15.out)).mono ?_
  rintro e w6 ⟨rfl, hf6⟩
  have hfa : Fresh w1 w6 := fresh_trans H_f15.out hf6
  have c2' := row_fresh H_b3.out hfa
  have c3 := row_fresh H_b4.out hfa
  have p0 := row_cell c2' 0
  have p3 := row_cell c3 0
  simp at p0 p3
  have q0 : w6.frozen? ⟨g + 1 + 1, 0, none⟩ = false := frozen_of_row _ _ _ _ _ c2'
  have q3 : w6.frozen? ⟨g + 1 + 1 + 1, 0, none⟩ = false := frozen_of_row _ _ _ _ _ c3
  have H_hf6 := Lib.hid hf6; clear hf6
  have H_hfa := Lib.hid hfa; clear hfa
  have H_c2' := Lib.hid c2'; clear c2'
  have H_c3 := Lib.hid c3; clear c3
  go_wp2_with (fail)
  refine leaves_cons (f := 44) (args := #[.pointer (some ⟨g + 1 + 1, 0, none⟩), .pointer (some ⟨g + 1 + 1 + 1, 0, none⟩)]) (by simp) (by simp [go_sem]) ?_
  refine (FixCmp1_idle _ _ _).mono ?_
  rintro e u' w'' ⟨rfl, rfl, rfl⟩
  have c4 : (w6.setCell ⟨g + 1 + 1, 0, none⟩ (.int .i64 z)).cell? ⟨g + 1 + 1, 0, none⟩ = some (.int .i64 z) := cell?_setCell_eq rfl (by rw [p0]; rfl)
  have c5 : ((w6.setCell ⟨g + 1 + 1, 0, none⟩ (.int .i64 z)).setCell ⟨g + 1 + 1 + 1, 0, none⟩ (.int .i64 0)).cell? ⟨g + 1 + 1, 0, none⟩ = some (.int .i64 z) := by
    rw [cell?_setCell_ne (.inl (by show g + 1 + 1 ≠ g + 1 + 1 + 1; omega))]; exact c4
  have c6 : ((w6.setCell ⟨g + 1 + 1, 0, none⟩ (.int .i64 z)).setCell ⟨g + 1 + 1 + 1, 0, none⟩ (.int .i64 0)).cell? ⟨g + 1 + 1 + 1, 0, none⟩ = some (.int .i64 0) :=
    cell?_setCell_eq rfl (by rw [cell?_setCell_ne (.inl (by show g + 1 + 1 + 1 ≠ g + 1 + 1; omega)), p3]; rfl)
  refine ⟨.tuple #[.int .i64 z, .int .i64 0], results_two_cells rfl _ _ (g + 1 + 1) (g + 1 + 1 + 1) _ _ rfl rfl (by simp [loadVar, go_sem, c5]) (by simp [loadVar, go_sem, c6]), ?_⟩
  exact ⟨rfl, ((fresh_trans H_hf.out H_hfa.out).setCell (fun h => by have := H_hg.out; change g + 1 + 1 < w.heap.size at h; omega) _).setCell (fun h => by have := H_hg.out; change g + 1 + 1 + 1 < w.heap.size at h; omega) _⟩

theorem FixCmpAbs1_idle (p q : Addr) (w : World) :
    CallsD Tryz.prog 47 #[.pointer (some p), .pointer (some q)] .returning w fun e u' w' => e = .returned (.tuple #[]) ∧ u' = .returning ∧ w' = w := by
  refine callsD_of_wpS Tryz.func47 rfl fun c₀ cs hu => ?_
  apply wpS_seq
  apply wpS_region
  simp [wpOpsS, go_sem, recoverD, hu, Tryz.ntmps47, Exit.thenS]
  refine wpS_cond (t := false) (by simp [Act.eval, Array.replicate]) ?_
  simp only [Bool.false_eq_true, if_false]
  refine wpS_of_wp (wp_skip ?_)
  cases c₀
  simp_all [bodyPostS, results, Tryz.results47]

set_option maxRecDepth 20000 in
set_option maxHeartbeats 2000000 in
theorem FixCmpAbs_any (na nb : Bool) (s c s2 c2 : Nat) (z : Int) (w : World) (hs : s ≤ 19) (hc : c ≤ 9999999999999999999) (hs2 : s2 ≤ 19) (hc2 : c2 ≤ 9999999999999999999)
    (hm : ∀ W, Fresh w W → Calls Tryz.prog 48 #[gd (na && decide (0 < c)) s c, gd (nb && decide (0 < c2)) s2 c2] W (VRet W (.int .i64 z))) :
    Calls Tryz.prog 16 #[fx na c s, fx nb c2 s2] w (VRet w (.tuple #[.int .i64 z, .int .i64 0])) := by
  have hmf : ∀ (fn : Fn) (first cap : Array Value) (w : World), (Instr.makeFunc fn first cap).run Tryz.prog w = .ok (.func fn first cap) w := fun _ _ _ _ => rfl
  obtain ⟨na', hna⟩ : ∃ n, n = (na && decide (0 < c)) := ⟨_, rfl⟩
  obtain ⟨nb', hnb⟩ : ∃ n, n = (nb && decide (0 < c2)) := ⟨_, rfl⟩
  rw [← hna, ← hnb] at hm
  have H_hm := Lib.hid hm; clear hm
  have H_hna := Lib.hid hna; clear hna
  have H_hnb := Lib.hid hnb; clear hnb
  go_enter_defers Tryz.func16, Tryz.ntmps16
  go_wp2_with (fail)
  obtain ⟨g, hg⟩ : ∃ g, g = w.heap.size := ⟨_, rfl⟩
  have bx := boxes4 w #[.bool na, .int .u64 c, .int .i64 s] #[.bool nb, .int .u64 c2, .int .i64 s2] #[.int .i64 0] #[.int .i64 0] 24 24 3 3 g hg
  have H_bx := Lib.hid bx
  clear bx
  generalize hw1 : (((w.alloc _).alloc _).alloc _).alloc _ = w1
  rw [← hg]
  obtain ⟨b1, b2, b3, b4, hf⟩ := H_bx.out w1 hw1
  have H_b1 := Lib.hid b1; clear b1
  have H_b2 := Lib.hid b2; clear b2
  have H_b3 := Lib.hid b3; clear b3
  have H_b4 := Lib.hid b4; clear b4
  have H_hf := Lib.hid hf; clear hf
  have H_hw1 := Lib.hid hw1; clear hw1
  have H_hg := Lib.hid hg; clear hg
  refine (fixed_any na s c _ hs hc).mono ?_
  rintro e w2 ⟨rfl, hf2⟩
  have H_hf2 := Lib.hid hf2
  clear hf2
  rw [← H_hna.out]
  have d2 := row_fresh H_b2.out H_hf2.out
  obtain ⟨h, hh⟩ : ∃ h, h = w2.heap.size := ⟨_, rfl⟩
  have hlt : g + 1 < h := by
    rw [hh]
    rcases Nat.lt_or_ge (g + 1) w2.heap.size with h | h
    · exact h
    · rw [Array.getElem?_eq_none h] at d2; cases d2
  have k0 := row_cell d2 0
  have k1 := row_cell d2 1
  have k2 := row_cell d2 2
  simp at k0 k1 k2
  have a0 := fun o => cell_fresh k0 ((Keep.refl (fun _ => False) w2).alloc o)
  have a1 := fun o => cell_fresh k1 ((Keep.refl (fun _ => False) w2).alloc o)
  have a2 := fun o => cell_fresh k2 ((Keep.refl (fun _ => False) w2).alloc o)
  clear k0 k1 k2
  have H_d2 := Lib.hid d2; clear d2
  have H_hh := Lib.hid hh; clear hh
  have H_hlt := Lib.hid hlt; clear hlt
  go_wp2_with (fail)
  generalize hw3 : w2.alloc _ = w3
  have hf3 : Fresh w2 w3 := by rw [← hw3]; exact (Keep.refl _ _).alloc _
  have e1 : w3.heap[h]? = some (.cells #[.bool na', .int .i8 s, .int .u64 c] 62 (0, 0)) := by rw [← hw3, H_hh.out]; exact heap_alloc_new w2 _
  rw [← H_hh.out]
  clear a0 a1 a2
  have H_hw3 := Lib.hid hw3; clear hw3
  have H_hf3 := Lib.hid hf3; clear hf3
  have H_e1 := Lib.hid e1; clear e1
  refine (fixed_any nb s2 c2 _ hs2 hc2).mono ?_
  rintro e w4 ⟨rfl, hf4⟩
  rw [← H_hnb.out]
  have e2 := row_fresh H_e1.out hf4
  have hlt2 : h < w4.heap.size := by
    rcases Nat.lt_or_ge h w4.heap.size with h | h
    · exact h
    · rw [Array.getElem?_eq_none h] at e2; cases e2
  have k0 := row_cell e2 0
  have k1 := row_cell e2 1
  have k2 := row_cell e2 2
  simp at k0 k1 k2
  have a0 := fun o => cell_fresh k0 ((Keep.refl (fun _ => False) w4).alloc o)
  have a1 := fun o => cell_fresh k1 ((Keep.refl (fun _ => False) w4).alloc o)
  have a2 := fun o => cell_fresh k2 ((Keep.refl (fun _ => False) w4).alloc o)
  clear k0 k1 k2
  have H_hf4 := Lib.hid hf4; clear hf4
  have H_e2 := Lib.hid e2; clear e2
  have H_hlt2 := Lib.hid hlt2; clear hlt2
  go_wp2_with (fail)
  generalize hw5 : w4.alloc _ = w5
  have hf5 : Fresh w4 w5 := by rw [← hw5]; exact (Keep.refl _ _).alloc _
  clear a0 a1 a2
  have f15 : Fresh w1 w5 := fresh_trans (fresh_trans (fresh_trans H_hf2.out H_hf3.out) H_hf4.out) hf5
  have H_hw5 := Lib.hid hw5; clear hw5
  have H_hf5 := Lib.hid hf5; clear hf5
  have H_f15 := Lib.hid f15; clear f15
  refine (H_hm.out w5 (fresh_trans H_hf.out H_f15.out)).mono ?_
  rintro e w6 ⟨rfl, hf6⟩
  have hfa : Fresh w1 w6 := fresh_trans H_f15.out hf6
  have c2' := row_fresh H_b3.out hfa
  have c3 := row_fresh H_b4.out hfa
  have p0 := row_cell c2' 0
  have p3 := row_cell c3 0
  simp at p0 p3
  have q0 : w6.frozen? ⟨g + 1 + 1, 0, none⟩ = false := frozen_of_row _ _ _ _ _ c2'
  have q3 : w6.frozen? ⟨g + 1 + 1 + 1, 0, none⟩ = false := frozen_of_row _ _ _ _ _ c3
  have H_hf6 := Lib.hid hf6; clear hf6
  have H_hfa := Lib.hid hfa; clear hfa
  have H_c2' := Lib.hid c2'; clear c2'
  have H_c3 := Lib.hid c3; clear c3
  go_wp2_with (fail)
  refine leaves_cons (f := 47) (args := #[.pointer (some ⟨g + 1 + 1, 0, none⟩), .pointer (some ⟨g + 1 + 1 + 1, 0, none⟩)]) (by simp) (by simp [go_sem]) ?_
  refine (FixCmpAbs1_idle _ _ _).mono ?_
  rintro e u' w'' ⟨rfl, rfl, rfl⟩
  have c4 : (w6.setCell ⟨g + 1 + 1, 0, none⟩ (.int .i64 z)).cell? ⟨g + 1 + 1, 0, none⟩ = some (.int .i64 z) := cell?_setCell_eq rfl (by rw [p0]; rfl)
  have c5 : ((w6.setCell ⟨g + 1 + 1, 0, none⟩ (.int .i64 z)).setCell ⟨g + 1 + 1 + 1, 0, none⟩ (.int .i64 0)).cell? ⟨g + 1 + 1, 0, none⟩ = some (.int .i64 z) := by
    rw [cell?_setCell_ne (.inl (by show g + 1 + 1 ≠ g + 1 + 1 + 1; omega))]; exact c4
  have c6 : ((w6.setCell ⟨g + 1 + 1, 0, none⟩ (.int .i64 z)).setCell ⟨g + 1 + 1 + 1, 0, none⟩ (.int .i64 0)).cell? ⟨g + 1 + 1 + 1, 0, none⟩ = some (.int .i64 0) :=
    cell?_setCell_eq rfl (by rw [cell?_setCell_ne (.inl (by show g + 1 + 1 + 1 ≠ g + 1 + 1; omega)), p3]; rfl)
  refine ⟨.tuple #[.int .i64 z, .int .i64 0], results_two_cells rfl _ _ (g + 1 + 1) (g + 1 + 1 + 1) _ _ rfl rfl (by simp [loadVar, go_sem, c5]) (by simp [loadVar, go_sem, c6]), ?_⟩
  exact ⟨rfl, ((fresh_trans H_hf.out H_hfa.out).setCell (fun h => by have := H_hg.out; change g + 1 + 1 < w.heap.size at h; omega) _).setCell (fun h => by have := H_hg.out; change g + 1 + 1 + 1 < w.heap.size at h; omega) _⟩

theorem FixEqual1_idle (p q : Addr) (w : World) :
    CallsD Tryz.prog 49 #[.pointer (some p), .pointer (some q)] .returning w fun e u' w' => e = .returned (.tuple #[]) ∧ u' = .returning ∧ w' = w := by
  refine callsD_of_wpS Tryz.func49 rfl fun c₀ cs hu => ?_
  apply wpS_seq
  apply wpS_region
  simp [wpOpsS, go_sem, recoverD, hu, Tryz.ntmps49, Exit.thenS]
  refine wpS_cond (t := false) (by simp [Act.eval, Array.replicate]) ?_
  simp only [Bool.false_eq_true, if_false]
  refine wpS_of_wp (wp_skip ?_)
  cases c₀
  simp_all [bodyPostS, results, Tryz.results49]

set_option maxRecDepth 20000 in
set_option maxHeartbeats 2000000 in
theorem FixEqual_any (na nb : Bool) (s c s2 c2 : Nat) (z : Bool) (w : World) (hs : s ≤ 19) (hc : c ≤ 9999999999999999999) (hs2 : s2 ≤ 19) (hc2 : c2 ≤ 9999999999999999999)
    (hm : ∀ W, Fresh w W → Calls Tryz.prog 50 #[gd (na && decide (0 < c)) s c, gd (nb && decide (0 < c2)) s2 c2] W (VRet W (.bool z))) :
    Calls Tryz.prog 17 #[fx na c s, fx nb c2 s2] w (VRet w (.tuple #[.bool z, .int .i64 0])) := by
  have hmf : ∀ (fn : Fn) (first cap : Array Value) (w : World), (Instr.makeFunc fn first cap).run Tryz.prog w = .ok (.func fn first cap) w := fun _ _ _ _ => rfl
  obtain ⟨na', hna⟩ : ∃ n, n = (na && decide (0 < c)) := ⟨_, rfl⟩
  obtain ⟨nb', hnb⟩ : ∃ n, n = (nb && decide (0 < c2)) := ⟨_, rfl⟩
  rw [← hna, ← hnb] at hm
  have H_hm := Lib.hid hm; clear hm
  have H_hna := Lib.hid hna; clear hna
  have H_hnb := Lib.hid hnb; clear hnb
  go_enter_defers Tryz.func17, Tryz.ntmps17
  go_wp2_with (fail)
  obtain ⟨g, hg⟩ : ∃ g, g = w.heap.size := ⟨_, rfl⟩
  have bx := boxes4 w #[.bool na, .int .u64 c, .int .i64 s] #[.bool nb, .int .u64 c2, .int .i64 s2] #[.bool false] #[.int .i64 0] 24 24 4 3 g hg
  have H_bx := Lib.hid bx
  clear bx
  generalize hw1 : (((w.alloc _).alloc _).alloc _).alloc _ = w1
  rw [← hg]
  obtain ⟨b1, b2, b3, b4, hf⟩ := H_bx.out w1 hw1
  have H_b1 := Lib.hid b1; clear b1
  have H_b2 := Lib.hid b2; clear b2
  have H_b3 := Lib.hid b3; clear b3
  have H_b4 := Lib.hid b4; clear b4
  have H_hf := Lib.hid hf; clear hf
  have H_hw1 := Lib.hid hw1; clear hw1
  have H_hg := Lib.hid hg; clear hg
  refine (fixed_any na s c _ hs hc).mono ?_
  rintro e w2 ⟨rfl, hf2⟩
  have H_hf2 := Lib.hid hf2
  clear hf2
  rw [← H_hna.out]
  have d2 := row_fresh H_b2.out H_hf2.out
  obtain ⟨h, hh⟩ : ∃ h, h = w2.heap.size := ⟨_, rfl⟩
  have hlt : g + 1 < h := by
    rw [hh]
    rcases Nat.lt_or_ge (g + 1) w2.heap.size with h | h
    · exact h
    · rw [Array.getElem?_eq_none h] at d2; cases d2
  have k0 := row_cell d2 0
  have k1 := row_cell d2 1
  have k2 := row_cell d2 2
  simp at k0 k1 k2
  have a0 := fun o => cell_fresh k0 ((Keep.refl (fun _ => False) w2).alloc o)
  have a1 := fun o => cell_fresh k1 ((Keep.refl (fun _ => False) w2).alloc o)
  have a2 := fun o => cell_fresh k2 ((Keep.refl (fun _ => False) w2).alloc o)
  clear k0 k1 k2
  have H_d2 := Lib.hid d2; clear d2
  have H_hh := Lib.hid hh; clear hh
  have H_hlt := Lib.hid hlt; clear hlt
  go_wp2_with (fail)
  generalize hw3 : w2.alloc _ = w3
  have hf3 : Fresh w2 w3 := by rw [← hw3]; exact (Keep.refl _ _).alloc _
  have e1 : w3.heap[h]? = some (.cells #[.bool na', .int .i8 s, .int .u64 c] 62 (0, 0)) := by rw [← hw3, H_hh.out]; exact heap_alloc_new w2 _
  rw [← H_hh.out]
  clear a0 a1 a2
  have H_hw3 := Lib.hid hw3; clear hw3
  have H_hf3 := Lib.hid hf3; clear hf3
  have H_e1 := Lib.hid e1; clear e1
  refine (fixed_any nb s2 c2 _ hs2 hc2).mono ?_
  rintro e w4 ⟨rfl, hf4⟩
  rw [← H_hnb.out]
  have e2 := row_fresh H_e1.out hf4
  have hlt2 : h < w4.heap.size := by
    rcases Nat.lt_or_ge h w4.heap.size with h | h
    · exact h
    · rw [Array.getElem?_eq_none h] at e2; cases e2
  have k0 := row_cell e2 0
  have k1 := row_cell e2 1
  have k2 := row_cell e2 2
  simp at k0 k1 k2
  have a0 := fun o => cell_fresh k0 ((Keep.refl (fun _ => False) w4).alloc o)
  have a1 := fun o => cell_fresh k1 ((Keep.refl (fun _ => False) w4).alloc o)
  have a2 := fun o => cell_fresh k2 ((Keep.refl (fun _ => False) w4).alloc o)
  clear k0 k1 k2
  have H_hf4 := Lib.hid hf4; clear hf4
  have H_e2 := Lib.hid e2; clear e2
  have H_hlt2 := Lib.hid hlt2; clear hlt2
  go_wp2_with (fail)
  generalize hw5 : w4.alloc _ = w5
  have hf5 : Fresh w4 w5 := by rw [← hw5]; exact (Keep.refl _ _).alloc _
  clear a0 a1 a2
  have f15 : Fresh w1 w5 := fresh_trans (fresh_trans (fresh_trans H_hf2.out H_hf3.out) H_hf4.out) hf5
  have H_hw5 := Lib.hid hw5; clear hw5
  have H_hf5 := Lib.hid hf5; clear hf5
  have H_f15 := Lib.hid f15; clear f15
  refine (H_hm.out w5 (fresh_trans H_hf.out H_f15.out)).mono ?_
  rintro e w6 ⟨rfl, hf6⟩
  have hfa : Fresh w1 w6 := fresh_trans H_f15.out hf6
  have c2' := row_fresh H_b3.out hfa
  have c3 := row_fresh H_b4.out hfa
  have p0 := row_cell c2' 0
  have p3 := row_cell c3 0
  simp at p0 p3
  have q0 : w6.frozen? ⟨g + 1 + 1, 0, none⟩ = false := frozen_of_row _ _ _ _ _ c2'
  have q3 : w6.frozen? ⟨g + 1 + 1 + 1, 0, none⟩ = false := frozen_of_row _ _ _ _ _ c3
  have H_hf6 := Lib.hid hf6; clear hf6
  have H_hfa := Lib.hid hfa; clear hfa
  have H_c2' := Lib.hid c2'; clear c2'
  have H_c3 := Lib.hid c3; clear c3
  go_wp2_with (fail)
  refine leaves_cons (f := 49) (args := #[.pointer (some ⟨g + 1 + 1, 0, none⟩), .pointer (some ⟨g + 1 + 1 + 1, 0, none⟩)]) (by simp) (by simp [go_sem]) ?_
  refine (FixEqual1_idle _ _ _).mono ?_
  rintro e u' w'' ⟨rfl, rfl, rfl⟩
  have c4 : (w6.setCell ⟨g + 1 + 1, 0, none⟩ (.bool z)).cell? ⟨g + 1 + 1, 0, none⟩ = some (.bool z) := cell?_setCell_eq rfl (by rw [p0]; rfl)
  have c5 : ((w6.setCell ⟨g + 1 + 1, 0, none⟩ (.bool z)).setCell ⟨g + 1 + 1 + 1, 0, none⟩ (.int .i64 0)).cell? ⟨g + 1 + 1, 0, none⟩ = some (.bool z) := by
    rw [cell?_setCell_ne (.inl (by show g + 1 + 1 ≠ g + 1 + 1 + 1; omega))]; exact c4
  have c6 : ((w6.setCell ⟨g + 1 + 1, 0, none⟩ (.bool z)).setCell ⟨g + 1 + 1 + 1, 0, none⟩ (.int .i64 0)).cell? ⟨g + 1 + 1 + 1, 0, none⟩ = some (.int .i64 0) :=
    cell?_setCell_eq rfl (by rw [cell?_setCell_ne (.inl (by show g + 1 + 1 + 1 ≠ g + 1 + 1; omega)), p3]; rfl)
  refine ⟨.tuple #[.bool z, .int .i64 0], results_two_cells rfl _ _ (g + 1 + 1) (g + 1 + 1 + 1) _ _ rfl rfl (by simp [loadVar, go_sem, c5]) (by simp [loadVar, go_sem, c6]), ?_⟩
  exact ⟨rfl, ((fresh_trans H_hf.out H_hfa.out).setCell (fun h => by have := H_hg.out; change g + 1 + 1 < w.heap.size at h; omega) _).setCell (fun h => by have := H_hg.out; change g + 1 + 1 + 1 < w.heap.size at h; omega) _⟩

theorem FixLess1_idle (p q : Addr) (w : World) :
    CallsD Tryz.prog 51 #[.pointer (some p), .pointer (some q)] .returning w fun e u' w' => e = .returned (.tuple #[]) ∧ u' = .returning ∧ w' = w := by
  refine callsD_of_wpS Tryz.func51 rfl fun c₀ cs hu => ?_
  apply wpS_seq
  apply wpS_region
  simp [wpOpsS, go_sem, recoverD, hu, Tryz.ntmps51, Exit.thenS]
  refine wpS_cond (t := false) (by simp [Act.eval, Array.replicate]) ?_
  simp only [Bool.false_eq_true, if_false]
  refine wpS_of_wp (wp_skip ?_)
  cases c₀
  simp_all [bodyPostS, results, Tryz.results51]

set_option maxRecDepth 20000 in
set_option maxHeartbeats 2000000 in
theorem FixLess_any (na nb : Bool) (s c s2 c2 : Nat) (z : Bool) (w : World) (hs : s ≤ 19) (hc : c ≤ 9999999999999999999) (hs2 : s2 ≤ 19) (hc2 : c2 ≤ 9999999999999999999)
    (hm : ∀ W, Fresh w W → Calls Tryz.prog 52 #[gd (na && decide (0 < c)) s c, gd (nb && decide (0 < c2)) s2 c2] W (VRet W (.bool z))) :
    Calls Tryz.prog 18 #[fx na c s, fx nb c2 s2] w (VRet w (.tuple #[.bool z, .int .i64 0])) := by
  have hmf : ∀ (fn : Fn) (first cap : Array Value) (w : World), (Instr.makeFunc fn first cap).run Tryz.prog w = .ok (.func fn first cap) w := fun _ _ _ _ => rfl
  obtain ⟨na', hna⟩ : ∃ n, n = (na && decide (0 < c)) := ⟨_, rfl⟩
  obtain ⟨nb', hnb⟩ : ∃ n, n = (nb && decide (0 < c2)) := ⟨_, rfl⟩
  rw [← hna, ← hnb] at hm
  have H_hm := Lib.hid hm; clear hm
  have H_hna := Lib.hid hna; clear hna
  have H_hnb := Lib.hid hnb; clear hnb
  go_enter_defers Tryz.func18, Tryz.ntmps18
  go_wp2_with (fail)
  obtain ⟨g, hg⟩ : ∃ g, g = w.heap.size := ⟨_, rfl⟩
  have bx := boxes4 w #[.bool na, .int .u64 c, .int .i64 s] #[.bool nb, .int .u64 c2, .int .i64 s2] #[.bool false] #[.int .i64 0] 24 24 4 3 g hg
  have H_bx := Lib.hid bx
  clear bx
  generalize hw1 : (((w.alloc _).alloc _).alloc _).alloc _ = w1
  rw [← hg]
  obtain ⟨b1, b2, b3, b4, hf⟩ := H_bx.out w1 hw1
  have H_b1 := Lib.hid b1; clear b1
  have H_b2 := Lib.hid b2; clear b2
  have H_b3 := Lib.hid b3; clear b3
  have H_b4 := Lib.hid b4; clear b4
  have H_hf := Lib.hid hf; clear hf
  have H_hw1 := Lib.hid hw1; clear hw1
  have H_hg := Lib.hid hg; clear hg
  refine (fixed_any na s c _ hs hc).mono ?_
  rintro e w2 ⟨rfl, hf2⟩
  have H_hf2 := Lib.hid hf2
  clear hf2
  rw [← H_hna.out]
  have d2 := row_fresh H_b2.out H_hf2.out
  obtain ⟨h, hh⟩ : ∃ h, h = w2.heap.size := ⟨_, rfl⟩
  have hlt : g + 1 < h := by
    rw [hh]
    rcases Nat.lt_or_ge (g + 1) w2.heap.size with h | h
    · exact h
    · rw [Array.getElem?_eq_none h] at d2; cases d2
  have k0 := row_cell d2 0
  have k1 := row_cell d2 1
  have k2 := row_cell d2 2
  simp at k0 k1 k2
  have a0 := fun o => cell_fresh k0 ((Keep.refl (fun _ => False) w2).alloc o)
  have a1 := fun o => cell_fresh k1 ((Keep.refl (fun _ => False) w2).alloc o)
  have a2 := fun o => cell_fresh k2 ((Keep.refl (fun _ => False) w2).alloc o)
  clear k0 k1 k2
  have H_d2 := Lib.hid d2; clear d2
  have H_hh := Lib.hid hh; clear hh
  have H_hlt := Lib.hid hlt; clear hlt
  go_wp2_with (fail)
  generalize hw3 : w2.alloc _ = w3
  have hf3 : Fresh w2 w3 := by rw [← hw3]; exact (Keep.refl _ _).alloc _
  have e1 : w3.heap[h]? = some (.cells #[.bool na', .int .i8 s, .int .u64 c] 62 (0, 0)) := by rw [← hw3, H_hh.out]; exact heap_alloc_new w2 _
  rw [← H_hh.out]
  clear a0 a1 a2
  have H_hw3 := Lib.hid hw3; clear hw3
  have H_hf3 := Lib.hid hf3; clear hf3
  have H_e1 := Lib.hid e1; clear e1
  refine (fixed_any nb s2 c2 _ hs2 hc2).mono ?_
  rintro e w4 ⟨rfl, hf4⟩
  rw [← H_hnb.out]
  have e2 := row_fresh H_e1.out hf4
  have hlt2 : h < w4.heap.size := by
    rcases Nat.lt_or_ge h w4.heap.size with h | h
    · exact h
    · rw [Array.getElem?_eq_none h] at e2; cases e2
  have k0 := row_cell e2 0
  have k1 := row_cell e2 1
  have k2 := row_cell e2 2
  simp at k0 k1 k2
  have a0 := fun o => cell_fresh k0 ((Keep.refl (fun _ => False) w4).alloc o)
  have a1 := fun o => cell_fresh k1 ((Keep.refl (fun _ => False) w4).alloc o)
  have a2 := fun o => cell_fresh k2 ((Keep.refl (fun _ => False) w4).alloc o)
  clear k0 k1 k2
  have H_hf4 := Lib.hid hf4; clear hf4
  have H_e2 := Lib.hid e2; clear e2
  have H_hlt2 := Lib.hid hlt2; clear hlt2
  go_wp2_with (fail)
  generalize hw5 : w4.alloc _ = w5
  have hf5 : Fresh w4 w5 := by rw [← hw5]; exact (Keep.refl _ _).alloc _
  clear a0 a1 a2
  have f15 : Fresh w1 w5 := fresh_trans (fresh_trans (fresh_trans H_hf2.out H_hf3.out) H_hf4.out) hf5
  have H_hw5 := Lib.hid hw5; clear hw5
  have H_hf5 := Lib.hid hf5; clear hf5
  have H_f15 := Lib.hid f15; clear f15
  refine (H_hm.out w5 (fresh_trans H_hf.out H_f15.out)).mono ?_
  rintro e w6 ⟨rfl, hf6⟩
  have hfa : Fresh w1 w6 := fresh_trans H_f15.out hf6
  have c2' := row_fresh H_b3.out hfa
  have c3 := row_fresh H_b4.out hfa
  have p0 := row_cell c2' 0
  have p3 := row_cell c3 0
  simp at p0 p3
  have q0 : w6.frozen? ⟨g + 1 + 1, 0, none⟩ = false := frozen_of_row _ _ _ _ _ c2'
  have q3 : w6.frozen? ⟨g + 1 + 1 + 1, 0, none⟩ = false := frozen_of_row _ _ _ _ _ c3
  have H_hf6 := Lib.hid hf6; clear hf6
  have H_hfa := Lib.hid hfa; clear hfa
  have H_c2' := Lib.hid c2'; clear c2'
  have H_c3 := Lib.hid c3; clear c3
  go_wp2_with (fail)
  refine leaves_cons (f := 51) (args := #[.pointer (some ⟨g + 1 + 1, 0, none⟩), .pointer (some ⟨g + 1 + 1 + 1, 0, none⟩)]) (by simp) (by simp [go_sem]) ?_
  refine (FixLess1_idle _ _ _).mono ?_
  rintro e u' w'' ⟨rfl, rfl, rfl⟩
  have c4 : (w6.setCell ⟨g + 1 + 1, 0, none⟩ (.bool z)).cell? ⟨g + 1 + 1, 0, none⟩ = some (.bool z) := cell?_setCell_eq rfl (by rw [p0]; rfl)
  have c5 : ((w6.setCell ⟨g + 1 + 1, 0, none⟩ (.bool z)).setCell ⟨g + 1 + 1 + 1, 0, none⟩ (.int .i64 0)).cell? ⟨g + 1 + 1, 0, none⟩ = some (.bool z) := by
    rw [cell?_setCell_ne (.inl (by show g + 1 + 1 ≠ g + 1 + 1 + 1; omega))]; exact c4
  have c6 : ((w6.setCell ⟨g + 1 + 1, 0, none⟩ (.bool z)).setCell ⟨g + 1 + 1 + 1, 0, none⟩ (.int .i64 0)).cell? ⟨g + 1 + 1 + 1, 0, none⟩ = some (.int .i64 0) :=
    cell?_setCell_eq rfl (by rw [cell?_setCell_ne (.inl (by show g + 1 + 1 + 1 ≠ g + 1 + 1; omega)), p3]; rfl)
  refine ⟨.tuple #[.bool z, .int .i64 0], results_two_cells rfl _ _ (g + 1 + 1) (g + 1 + 1 + 1) _ _ rfl rfl (by simp [loadVar, go_sem, c5]) (by simp [loadVar, go_sem, c6]), ?_⟩
  exact ⟨rfl, ((fresh_trans H_hf.out H_hfa.out).setCell (fun h => by have := H_hg.out; change g + 1 + 1 < w.heap.size at h; omega) _).setCell (fun h => by have := H_hg.out; change g + 1 + 1 + 1 < w.heap.size at h; omega) _⟩

end Go.Proofs.YtibaeafmgncjdaaGreatDoor
