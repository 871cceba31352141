/- The contracts of the thin package: FixMinScale, FixIsInt. -/
import Derived.Test.YthemaneoighaoaaGreatDoorMin
namespace Go.Proofs.YthemaneoighaoaaGreatDoor
open Go.RowKit

theorem results_two_cells {P : Program} {fn : Func} {p q : Tmp} {ty ty' : TypeId} (h : fn.results = #[.cell p ty, .cell q ty']) (tmps : Array Value) (w : World) (g g' : Nat) (u v : Value)
    (hp : tmps.getD p undef = .pointer (some ⟨g, 0, none⟩)) (hq : tmps.getD q undef = .pointer (some ⟨g', 0, none⟩))
    (hu : (loadVar ty ⟨g, 0, none⟩).run P w = .ok u w) (hv : (loadVar ty' ⟨g', 0, none⟩).run P w = .ok v w) :
    (results fn tmps).run P w = .ok (.tuple #[u, v]) w := by
  have hp' : tmps[p]?.getD undef = .pointer (some ⟨g, 0, none⟩) := by simpa using hp
  have hq' : tmps[q]?.getD undef = .pointer (some ⟨g', 0, none⟩) := by simpa using hq
  simp [results, h, hp', hq', asAddr, hu, hv, Sem.run_bind, Result.andThen]

theorem FixMinScale1_idle (p q : Addr) (w : World) :
    CallsD Tryz.prog 41 #[.pointer (some p), .pointer (some q)] .returning w fun e u' w' => e = .returned (.tuple #[]) ∧ u' = .returning ∧ w' = w := by
  refine callsD_of_wpS Tryz.func41 rfl fun c₀ cs hu => ?_
  apply wpS_seq
  apply wpS_region
  simp [wpOpsS, go_sem, recoverD, hu, Tryz.ntmps41, Exit.thenS]
  refine wpS_cond (t := false) (by simp [Act.eval, Array.replicate]) ?_
  simp only [Bool.false_eq_true, if_false]
  refine wpS_of_wp (wp_skip ?_)
  cases c₀
  simp_all [bodyPostS, results, Tryz.results41]

set_option maxRecDepth 20000 in
set_option maxHeartbeats 2000000 in
theorem FixMinScale_any (neg : Bool) (s c : Nat) (z : Int) (w : World) (hs : s ≤ 19) (hc : c ≤ 9999999999999999999)
    (hm : ∀ W, Fresh w W → Calls Tryz.prog 42 #[gd (neg && decide (0 < c)) s c] W (VRet W (.int .i64 z))) :
    Calls Tryz.prog 15 #[fx neg c s] w (VRet w (.tuple #[.int .i64 z, .int .i64 0])) := by
  have hmf : ∀ (fn : Fn) (first cap : Array Value) (w : World), (Instr.makeFunc fn first cap).run Tryz.prog w = .ok (.func fn first cap) w := fun _ _ _ _ => rfl
  obtain ⟨neg', hneg⟩ : ∃ n, n = (neg && decide (0 < c)) := ⟨_, rfl⟩
  rw [← hneg] at hm
  have H_hm := Lib.hid hm; clear hm
  have H_hneg := Lib.hid hneg; clear hneg
  go_enter_defers Tryz.func15, Tryz.ntmps15
  go_wp2_with (fail)
  obtain ⟨g, hg⟩ : ∃ g, g = w.heap.size := ⟨_, rfl⟩
  have bx := boxes3 w #[.bool neg, .int .u64 c, .int .i64 s] #[.int .i64 0] #[.int .i64 0] 24 3 3 g hg
  have H_bx := Lib.hid bx
  clear bx
  generalize hw1 : ((w.alloc _).alloc _).alloc _ = w1
  rw [← hg]
  obtain ⟨b1, b2, b3, hf, hgs⟩ := H_bx.out w1 hw1
  have H_b1 := Lib.hid b1; clear b1
  have H_b2 := Lib.hid b2; clear b2
  have H_b3 := Lib.hid b3; clear b3
  have H_hf := Lib.hid hf; clear hf
  have H_hw1 := Lib.hid hw1; clear hw1
  have H_hg := Lib.hid hg; clear hg
  have H_hgs := Lib.hid hgs; clear hgs
  refine (fixed_any neg s c _ hs hc).mono ?_
  rintro e w2 ⟨rfl, hf2⟩
  have H_hf2 := Lib.hid hf2
  clear hf2
  rw [← H_hneg.out]
  go_wp2_with (fail)
  generalize hw3 : w2.alloc _ = w3
  have hf3 : Fresh w2 w3 := by rw [← hw3]; exact (Keep.refl _ _).alloc _
  have H_hw3 := Lib.hid hw3; clear hw3
  have H_hf3 := Lib.hid hf3; clear hf3
  refine (H_hm.out w3 (fresh_trans (fresh_trans H_hf.out H_hf2.out) H_hf3.out)).mono ?_
  rintro e w4 ⟨rfl, hf4⟩
  have hfa : Fresh w1 w4 := fresh_trans (fresh_trans H_hf2.out H_hf3.out) hf4
  have c2 := row_fresh H_b2.out hfa
  have c3 := row_fresh H_b3.out hfa
  have p0 := row_cell c2 0
  have p3 := row_cell c3 0
  simp at p0 p3
  have q0 : w4.frozen? ⟨g + 1, 0, none⟩ = false := frozen_of_row _ _ _ _ _ c2
  have q3 : w4.frozen? ⟨g + 1 + 1, 0, none⟩ = false := frozen_of_row _ _ _ _ _ c3
  have H_hf4 := Lib.hid hf4; clear hf4
  have H_hfa := Lib.hid hfa; clear hfa
  have H_c2 := Lib.hid c2; clear c2
  have H_c3 := Lib.hid c3; clear c3
  go_wp2_with (fail)
  refine leaves_cons (f := 41) (args := #[.pointer (some ⟨g + 1, 0, none⟩), .pointer (some ⟨g + 1 + 1, 0, none⟩)]) (by simp) (by simp [go_sem]) ?_
  refine (FixMinScale1_idle _ _ _).mono ?_
  rintro e u' w'' ⟨rfl, rfl, rfl⟩
  have c4 : (w4.setCell ⟨g + 1, 0, none⟩ (.int .i64 z)).cell? ⟨g + 1, 0, none⟩ = some (.int .i64 z) := cell?_setCell_eq rfl (by rw [p0]; rfl)
  have c5 : ((w4.setCell ⟨g + 1, 0, none⟩ (.int .i64 z)).setCell ⟨g + 1 + 1, 0, none⟩ (.int .i64 0)).cell? ⟨g + 1, 0, none⟩ = some (.int .i64 z) := by
    rw [cell?_setCell_ne (.inl (by show g + 1 ≠ g + 1 + 1; omega))]; exact c4
  have c6 : ((w4.setCell ⟨g + 1, 0, none⟩ (.int .i64 z)).setCell ⟨g + 1 + 1, 0, none⟩ (.int .i64 0)).cell? ⟨g + 1 + 1, 0, none⟩ = some (.int .i64 0) :=
    cell?_setCell_eq rfl (by rw [cell?_setCell_ne (.inl (by show g + 1 + 1 ≠ g + 1; omega)), p3]; rfl)
  refine ⟨.tuple #[.int .i64 z, .int .i64 0], results_two_cells rfl _ _ (g + 1) (g + 1 + 1) _ _ rfl rfl (by simp [loadVar, go_sem, c5]) (by simp [loadVar, go_sem, c6]), ?_⟩
  exact ⟨rfl, ((fresh_trans H_hf.out H_hfa.out).setCell (fun h => by have := H_hg.out; change g + 1 < w.heap.size at h; omega) _).setCell (fun h => by have := H_hg.out; change g + 1 + 1 < w.heap.size at h; omega) _⟩

theorem FixIsInt1_idle (p q : Addr) (w : World) :
    CallsD Tryz.prog 43 #[.pointer (some p), .pointer (some q)] .returning w fun e u' w' => e = .returned (.tuple #[]) ∧ u' = .returning ∧ w' = w := by
  refine callsD_of_wpS Tryz.func43 rfl fun c₀ cs hu => ?_
  apply wpS_seq
  apply wpS_region
  simp [wpOpsS, go_sem, recoverD, hu, Tryz.ntmps43, Exit.thenS]
  refine wpS_cond (t := false) (by simp [Act.eval, Array.replicate]) ?_
  simp only [Bool.false_eq_true, if_false]
  refine wpS_of_wp (wp_skip ?_)
  cases c₀
  simp_all [bodyPostS, results, Tryz.results43]

set_option maxRecDepth 20000 in
set_option maxHeartbeats 2000000 in
theorem FixIsInt_any (neg : Bool) (s c : Nat) (z : Bool) (w : World) (hs : s ≤ 19) (hc : c ≤ 9999999999999999999)
    (hm : ∀ W, Fresh w W → Calls Tryz.prog 44 #[gd (neg && decide (0 < c)) s c] W (VRet W (.bool z))) :
    Calls Tryz.prog 16 #[fx neg c s] w (VRet w (.tuple #[.bool z, .int .i64 0])) := by
  have hmf : ∀ (fn : Fn) (first cap : Array Value) (w : World), (Instr.makeFunc fn first cap).run Tryz.prog w = .ok (.func fn first cap) w := fun _ _ _ _ => rfl
  obtain ⟨neg', hneg⟩ : ∃ n, n = (neg && decide (0 < c)) := ⟨_, rfl⟩
  rw [← hneg] at hm
  have H_hm := Lib.hid hm; clear hm
  have H_hneg := Lib.hid hneg; clear hneg
  go_enter_defers Tryz.func16, Tryz.ntmps16
  go_wp2_with (fail)
  obtain ⟨g, hg⟩ : ∃ g, g = w.heap.size := ⟨_, rfl⟩
  have bx := boxes3 w #[.bool neg, .int .u64 c, .int .i64 s] #[.bool false] #[.int .i64 0] 24 4 3 g hg
  have H_bx := Lib.hid bx
  clear bx
  generalize hw1 : ((w.alloc _).alloc _).alloc _ = w1
  rw [← hg]
  obtain ⟨b1, b2, b3, hf, hgs⟩ := H_bx.out w1 hw1
  have H_b1 := Lib.hid b1; clear b1
  have H_b2 := Lib.hid b2; clear b2
  have H_b3 := Lib.hid b3; clear b3
  have H_hf := Lib.hid hf; clear hf
  have H_hw1 := Lib.hid hw1; clear hw1
  have H_hg := Lib.hid hg; clear hg
  have H_hgs := Lib.hid hgs; clear hgs
  refine (fixed_any neg s c _ hs hc).mono ?_
  rintro e w2 ⟨rfl, hf2⟩
  have H_hf2 := Lib.hid hf2
  clear hf2
  rw [← H_hneg.out]
  go_wp2_with (fail)
  generalize hw3 : w2.alloc _ = w3
  have hf3 : Fresh w2 w3 := by rw [← hw3]; exact (Keep.refl _ _).alloc _
  have H_hw3 := Lib.hid hw3; clear hw3
  have H_hf3 := Lib.hid hf3; clear hf3
  refine (H_hm.out w3 (fresh_trans (fresh_trans H_hf.out H_hf2.out) H_hf3.out)).mono ?_
  rintro e w4 ⟨rfl, hf4⟩
  have hfa : Fresh w1 w4 := fresh_trans (fresh_trans H_hf2.out H_hf3.out) hf4
  have c2 := row_fresh H_b2.out hfa
  have c3 := row_fresh H_b3.out hfa
  have p0 := row_cell c2 0
  have p3 := row_cell c3 0
  simp at p0 p3
  have q0 : w4.frozen? ⟨g + 1, 0, none⟩ = false := frozen_of_row _ _ _ _ _ c2
  have q3 : w4.frozen? ⟨g + 1 + 1, 0, none⟩ = false := frozen_of_row _ _ _ _ _ c3
  have H_hf4 := Lib.hid hf4; clear hf4
  have H_hfa := Lib.hid hfa; clear hfa
  have H_c2 := Lib.hid c2; clear c2
  have H_c3 := Lib.hid c3; clear c3
  go_wp2_with (fail)
  refine leaves_cons (f := 43) (args := #[.pointer (some ⟨g + 1, 0, none⟩), .pointer (some ⟨g + 1 + 1, 0, none⟩)]) (by simp) (by simp [go_sem]) ?_
  refine (FixIsInt1_idle _ _ _).mono ?_
  rintro e u' w'' ⟨rfl, rfl, rfl⟩
  have c4 : (w4.setCell ⟨g + 1, 0, none⟩ (.bool z)).cell? ⟨g + 1, 0, none⟩ = some (.bool z) := cell?_setCell_eq rfl (by rw [p0]; rfl)
  have c5 : ((w4.setCell ⟨g + 1, 0, none⟩ (.bool z)).setCell ⟨g + 1 + 1, 0, none⟩ (.int .i64 0)).cell? ⟨g + 1, 0, none⟩ = some (.bool z) := by
    rw [cell?_setCell_ne (.inl (by show g + 1 ≠ g + 1 + 1; omega))]; exact c4
  have c6 : ((w4.setCell ⟨g + 1, 0, none⟩ (.bool z)).setCell ⟨g + 1 + 1, 0, none⟩ (.int .i64 0)).cell? ⟨g + 1 + 1, 0, none⟩ = some (.int .i64 0) :=
    cell?_setCell_eq rfl (by rw [cell?_setCell_ne (.inl (by show g + 1 + 1 ≠ g + 1; omega)), p3]; rfl)
  refine ⟨.tuple #[.bool z, .int .i64 0], results_two_cells rfl _ _ (g + 1) (g + 1 + 1) _ _ rfl rfl (by simp [loadVar, go_sem, c5]) (by simp [loadVar, go_sem, c6]), ?_⟩
  exact ⟨rfl, ((fresh_trans H_hf.out H_hfa.out).setCell (fun h => by have := H_hg.out; change g + 1 < w.heap.size at h; omega) _).setCell (fun h => by have := H_hg.out; change g + 1 + 1 < w.heap.size at h; omega) _⟩

end Go.Proofs.YthemaneoighaoaaGreatDoor
