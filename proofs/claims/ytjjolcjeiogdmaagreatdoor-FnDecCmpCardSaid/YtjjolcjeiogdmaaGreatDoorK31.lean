/- impl.DecCmp and impl.DecOrders. Printed by gen_idc.py. -/
import Derived.Test.YtjjolcjeiogdmaaGreatDoorK21
import Derived.Test.YtjjolcjeiogdmaaGreatDoorK26
import Derived.Test.YtjjolcjeiogdmaaGreatDoorK30
namespace Go.Proofs.YtjjolcjeiogdmaaGreatDoor
open Go.RowKit

theorem DecCmp1_idle (p0 p1 : Addr) (w : World) :
    CallsD Tryz.prog 20 #[.pointer (some p0), .pointer (some p1)] .returning w fun e u' w' => e = .returned (.tuple #[]) ∧ u' = .returning ∧ w' = w := by
  refine callsD_of_wpS Tryz.func20 rfl fun c₀ cs hu => ?_
  apply wpS_seq
  apply wpS_region
  simp [wpOpsS, go_sem, recoverD, hu, Tryz.ntmps20, Exit.thenS]
  refine wpS_cond (t := false) (by simp [Act.eval, Array.replicate]) ?_
  simp only [Bool.false_eq_true, if_false]
  refine wpS_of_wp (wp_skip ?_)
  cases c₀
  simp_all [bodyPostS, results, Tryz.results20]

theorem DecOrders1_idle (p0 p1 p2 p3 p4 p5 : Addr) (w : World) :
    CallsD Tryz.prog 23 #[.pointer (some p0), .pointer (some p1), .pointer (some p2), .pointer (some p3), .pointer (some p4), .pointer (some p5)] .returning w fun e u' w' => e = .returned (.tuple #[]) ∧ u' = .returning ∧ w' = w := by
  refine callsD_of_wpS Tryz.func23 rfl fun c₀ cs hu => ?_
  apply wpS_seq
  apply wpS_region
  simp [wpOpsS, go_sem, recoverD, hu, Tryz.ntmps23, Exit.thenS]
  refine wpS_cond (t := false) (by simp [Act.eval, Array.replicate]) ?_
  simp only [Bool.false_eq_true, if_false]
  refine wpS_of_wp (wp_skip ?_)
  cases c₀
  simp_all [bodyPostS, results, Tryz.results23]

theorem results_cells6 {P : Program} {fn : Func} {p1 p2 p3 p4 p5 p6 : Tmp} {t1 t2 t3 t4 t5 t6 : TypeId} {v1 v2 v3 v4 v5 v6 : Value} (h : fn.results = #[.cell p1 t1, .cell p2 t2, .cell p3 t3, .cell p4 t4, .cell p5 t5, .cell p6 t6]) (tmps : Array Value) (w : World) (g1 g2 g3 g4 g5 g6 : Nat)
    (h1 : tmps.getD p1 undef = .pointer (some ⟨g1, 0, none⟩)) (h2 : tmps.getD p2 undef = .pointer (some ⟨g2, 0, none⟩)) (h3 : tmps.getD p3 undef = .pointer (some ⟨g3, 0, none⟩)) (h4 : tmps.getD p4 undef = .pointer (some ⟨g4, 0, none⟩)) (h5 : tmps.getD p5 undef = .pointer (some ⟨g5, 0, none⟩)) (h6 : tmps.getD p6 undef = .pointer (some ⟨g6, 0, none⟩))
    (e1 : (loadVar t1 ⟨g1, 0, none⟩).run P w = .ok v1 w) (e2 : (loadVar t2 ⟨g2, 0, none⟩).run P w = .ok v2 w) (e3 : (loadVar t3 ⟨g3, 0, none⟩).run P w = .ok v3 w) (e4 : (loadVar t4 ⟨g4, 0, none⟩).run P w = .ok v4 w) (e5 : (loadVar t5 ⟨g5, 0, none⟩).run P w = .ok v5 w) (e6 : (loadVar t6 ⟨g6, 0, none⟩).run P w = .ok v6 w) :
    (results fn tmps).run P w = .ok (.tuple #[v1, v2, v3, v4, v5, v6]) w := by
  have h1' : tmps[p1]?.getD undef = .pointer (some ⟨g1, 0, none⟩) := by simpa using h1
  have h2' : tmps[p2]?.getD undef = .pointer (some ⟨g2, 0, none⟩) := by simpa using h2
  have h3' : tmps[p3]?.getD undef = .pointer (some ⟨g3, 0, none⟩) := by simpa using h3
  have h4' : tmps[p4]?.getD undef = .pointer (some ⟨g4, 0, none⟩) := by simpa using h4
  have h5' : tmps[p5]?.getD undef = .pointer (some ⟨g5, 0, none⟩) := by simpa using h5
  have h6' : tmps[p6]?.getD undef = .pointer (some ⟨g6, 0, none⟩) := by simpa using h6
  simp [results, h, h1', h2', h3', h4', h5', h6', asAddr, e1, e2, e3, e4, e5, e6, Sem.run_bind, Result.andThen]

theorem boxes8 (w : World) (c1 c2 c3 c4 c5 c6 c7 c8 : Array Value) (T1 T2 T3 T4 T5 T6 T7 T8 : TypeId) : ∀ g, g = w.heap.size → ∀ w1, (((((((w.alloc (.cells c1 T1)).alloc (.cells c2 T2)).alloc (.cells c3 T3)).alloc (.cells c4 T4)).alloc (.cells c5 T5)).alloc (.cells c6 T6)).alloc (.cells c7 T7)).alloc (.cells c8 T8) = w1 →
    w1.heap[g]? = some (.cells c1 T1 (0, 0)) ∧ w1.heap[g + 1]? = some (.cells c2 T2 (0, 0)) ∧ w1.heap[g + 1 + 1]? = some (.cells c3 T3 (0, 0)) ∧ w1.heap[g + 1 + 1 + 1]? = some (.cells c4 T4 (0, 0)) ∧ w1.heap[g + 1 + 1 + 1 + 1]? = some (.cells c5 T5 (0, 0)) ∧ w1.heap[g + 1 + 1 + 1 + 1 + 1]? = some (.cells c6 T6 (0, 0)) ∧ w1.heap[g + 1 + 1 + 1 + 1 + 1 + 1]? = some (.cells c7 T7 (0, 0)) ∧ w1.heap[g + 1 + 1 + 1 + 1 + 1 + 1 + 1]? = some (.cells c8 T8 (0, 0)) ∧ Fresh w w1 := by
  rintro g rfl w1 rfl
  obtain ⟨h1, h2, h3, h4, h5⟩ := boxes4 w c1 c2 c3 c4 T1 T2 T3 T4 _ rfl _ rfl
  obtain ⟨s1, s2, s3, s4, s5⟩ := boxes4 ((((w.alloc (.cells c1 T1)).alloc (.cells c2 T2)).alloc (.cells c3 T3)).alloc (.cells c4 T4)) c5 c6 c7 c8 T5 T6 T7 T8 _ rfl _ rfl
  have hs : ((((w.alloc (.cells c1 T1)).alloc (.cells c2 T2)).alloc (.cells c3 T3)).alloc (.cells c4 T4)).heap.size = w.heap.size + 1 + 1 + 1 + 1 := by simp
  rw [hs] at s1 s2 s3 s4
  exact ⟨row_fresh h1 s5, row_fresh h2 s5, row_fresh h3 s5, row_fresh h4 s5, s1, s2, s3, s4, fresh_trans h5 s5⟩

set_option maxRecDepth 20000 in
set_option maxHeartbeats 4000000 in
theorem DecCmp_ok (z1 z2 e1 e2 c : Int) (w : World) (hz1 : (wdig z1).length ≤ 300) (hz2 : (wdig z2).length ≤ 300) (he1 : -400 ≤ e1 ∧ e1 ≤ 400) (he2 : -400 ≤ e2 ∧ e2 ≤ 400) (hNG : NG ≤ w.heap.size)
    (hm : ∀ b1 v1 b2 v2 W, Fresh w W → ZI W b1 v1 z1 → ZI W b2 v2 z2 → b1 ≠ b2 → Calls Tryz.prog 22 #[sd b1 e1, sd b2 e2] W (fun r w' => r = .returned (.int .i64 c) ∧ Fresh W w')) :
    Calls Tryz.prog 9 #[dd z1 e1, dd z2 e2] w (fun r w' => r = .returned (.tuple #[.int .i64 c, .int .i64 0]) ∧ Fresh w w') := by
  have hmf : ∀ (fn : Fn) (first cap : Array Value) (w : World), (Instr.makeFunc fn first cap).run Tryz.prog w = .ok (.func fn first cap) w := fun _ _ _ _ => rfl
  have hm1 := fun W (hW : Fresh w W) => made_any z1 e1 W hz1 he1 (Nat.le_trans hNG hW.size)
  have hm2 := fun W (hW : Fresh w W) => made_any z2 e2 W hz2 he2 (Nat.le_trans hNG hW.size)
  unfold dd
  generalize bstr (wdig z1) = t1 at *
  generalize bstr (wdig z2) = t2 at *
  clear hz1 hz2 he1 he2 hNG
  have H_hm1 := Lib.hid hm1; clear hm1
  have H_hm2 := Lib.hid hm2; clear hm2
  have H_hm := Lib.hid hm; clear hm
  go_enter_defers Tryz.func9, Tryz.ntmps9
  go_wp2_with (fail)
  obtain ⟨g, hg⟩ : ∃ g, g = w.heap.size := ⟨_, rfl⟩
  have bx := boxes4 w #[.string t1, .int .i64 e1] #[.string t2, .int .i64 e2] #[.int .i64 0] #[.int .i64 0] 23 23 3 3 g hg
  have H_bx := Lib.hid bx; clear bx
  generalize hw1 : (((w.alloc _).alloc _).alloc _).alloc _ = w1
  rw [← hg]
  obtain ⟨d1, d2, d3, d4, fa⟩ := H_bx.out w1 hw1
  have H_d1 := Lib.hid d1; clear d1
  have H_d2 := Lib.hid d2; clear d2
  have H_d3 := Lib.hid d3; clear d3
  have H_d4 := Lib.hid d4; clear d4
  have H_fa := Lib.hid fa; clear fa
  have H_hw1 := Lib.hid hw1; clear hw1
  have H_hg := Lib.hid hg; clear hg
  refine (H_hm1.out _ H_fa.out).mono ?_
  rintro e w2 ⟨b1, v1, rfl, y1, -, -, f2⟩
  have d1 := row_fresh H_d1.out f2
  have d2 := row_fresh H_d2.out f2
  have d3 := row_fresh H_d3.out f2
  have d4 := row_fresh H_d4.out f2
  have fa := fresh_trans H_fa.out f2
  obtain ⟨h1, hh1⟩ : ∃ h, h = w2.heap.size := ⟨_, rfl⟩
  have ak0 := row_cell d2 0
  have ak1 := row_cell d2 1
  simp at ak0 ak1
  have a0 := fun o => cell_fresh ak0 ((Keep.refl (fun _ => False) w2).alloc o)
  have a1 := fun o => cell_fresh ak1 ((Keep.refl (fun _ => False) w2).alloc o)
  clear ak0 ak1
  clear H_d1 H_d2 H_d3 H_d4 H_fa
  have H_d1 := Lib.hid d1; clear d1
  have H_d2 := Lib.hid d2; clear d2
  have H_d3 := Lib.hid d3; clear d3
  have H_d4 := Lib.hid d4; clear d4
  have H_fa := Lib.hid fa; clear fa
  have H_f2 := Lib.hid f2; clear f2
  have H_hh1 := Lib.hid hh1; clear hh1
  have H_y1 := Lib.hid y1; clear y1
  go_wp2_with (fail)
  generalize hw3 : w2.alloc _ = w3
  have f3 : Fresh w2 w3 := by rw [← hw3]; exact (Keep.refl _ _).alloc _
  have r1 : w3.heap[h1]? = some (.cells #[.pointer (some ⟨b1, 0, none⟩), .int .i32 e1] 49 (0, 0)) := by rw [← hw3, H_hh1.out]; exact heap_alloc_new w2 _
  rw [← H_hh1.out]
  have d1 := row_fresh H_d1.out f3
  have d2 := row_fresh H_d2.out f3
  have d3 := row_fresh H_d3.out f3
  have d4 := row_fresh H_d4.out f3
  have y1 := H_y1.out.fresh f3
  have fa := fresh_trans H_fa.out f3
  clear a0 a1
  clear H_d1 H_d2 H_d3 H_d4 H_fa H_y1
  have H_d1 := Lib.hid d1; clear d1
  have H_d2 := Lib.hid d2; clear d2
  have H_d3 := Lib.hid d3; clear d3
  have H_d4 := Lib.hid d4; clear d4
  have H_r1 := Lib.hid r1; clear r1
  have H_fa := Lib.hid fa; clear fa
  have H_f3 := Lib.hid f3; clear f3
  have H_hw3 := Lib.hid hw3; clear hw3
  have H_y1 := Lib.hid y1; clear y1
  refine (H_hm2.out _ H_fa.out).mono ?_
  rintro e w4 ⟨b2, v2, rfl, y2, gb, -, f4⟩
  have hne : b1 ≠ b2 := by have := H_y1.out.lt; omega
  clear gb
  have d1 := row_fresh H_d1.out f4
  have d2 := row_fresh H_d2.out f4
  have d3 := row_fresh H_d3.out f4
  have d4 := row_fresh H_d4.out f4
  have r1 := row_fresh H_r1.out f4
  have y1 := H_y1.out.fresh f4
  have fa := fresh_trans H_fa.out f4
  obtain ⟨h2, hh2⟩ : ∃ h, h = w4.heap.size := ⟨_, rfl⟩
  have ak0 := row_cell r1 0
  have ak1 := row_cell r1 1
  simp at ak0 ak1
  have a0 := fun o => cell_fresh ak0 ((Keep.refl (fun _ => False) w4).alloc o)
  have a1 := fun o => cell_fresh ak1 ((Keep.refl (fun _ => False) w4).alloc o)
  clear ak0 ak1
  clear H_d1 H_d2 H_d3 H_d4 H_r1 H_fa H_y1
  have H_d1 := Lib.hid d1; clear d1
  have H_d2 := Lib.hid d2; clear d2
  have H_d3 := Lib.hid d3; clear d3
  have H_d4 := Lib.hid d4; clear d4
  have H_r1 := Lib.hid r1; clear r1
  have H_fa := Lib.hid fa; clear fa
  have H_f4 := Lib.hid f4; clear f4
  have H_hh2 := Lib.hid hh2; clear hh2
  have H_y1 := Lib.hid y1; clear y1
  have H_y2 := Lib.hid y2; clear y2
  have H_hne := Lib.hid hne; clear hne
  go_wp2_with (fail)
  generalize hw5 : w4.alloc _ = w5
  have f5 : Fresh w4 w5 := by rw [← hw5]; exact (Keep.refl _ _).alloc _
  rw [← H_hh2.out]
  have d1 := row_fresh H_d1.out f5
  have d2 := row_fresh H_d2.out f5
  have d3 := row_fresh H_d3.out f5
  have d4 := row_fresh H_d4.out f5
  have y1 := H_y1.out.fresh f5
  have y2 := H_y2.out.fresh f5
  have fa := fresh_trans H_fa.out f5
  clear a0 a1
  clear H_d1 H_d2 H_d3 H_d4 H_r1 H_fa H_y1 H_y2
  have H_d1 := Lib.hid d1; clear d1
  have H_d2 := Lib.hid d2; clear d2
  have H_d3 := Lib.hid d3; clear d3
  have H_d4 := Lib.hid d4; clear d4
  have H_fa := Lib.hid fa; clear fa
  have H_f5 := Lib.hid f5; clear f5
  have H_hw5 := Lib.hid hw5; clear hw5
  have H_y1 := Lib.hid y1; clear y1
  have H_y2 := Lib.hid y2; clear y2
  refine (H_hm.out _ _ _ _ _ H_fa.out H_y1.out H_y2.out H_hne.out).mono ?_
  rintro e w6 ⟨rfl, f6⟩
  have d3 := row_fresh H_d3.out f6
  have d4 := row_fresh H_d4.out f6
  have fa := fresh_trans H_fa.out f6
  have p0 := row_cell d3 0
  have p1 := row_cell d4 0
  simp at p0 p1
  have q0 := frozen_of_row _ _ 0 _ _ d3
  have q1 := frozen_of_row _ _ 0 _ _ d4
  clear H_d1 H_d2 H_d3 H_d4 H_fa H_y1 H_y2
  have H_d3 := Lib.hid d3; clear d3
  have H_d4 := Lib.hid d4; clear d4
  have H_fa := Lib.hid fa; clear fa
  have H_f6 := Lib.hid f6; clear f6
  go_wp2_with (fail)
  refine leaves_cons (f := 20) (args := #[.pointer (some ⟨g + 1 + 1, 0, none⟩), .pointer (some ⟨g + 1 + 1 + 1, 0, none⟩)]) (by simp) (by simp [go_sem]) ?_
  refine (DecCmp1_idle _ _ _).mono ?_
  rintro e u' w'' ⟨rfl, rfl, rfl⟩
  generalize hwz : (w6.setCell _ _).setCell _ _ = wz
  have a3 : wz.heap[g + 1 + 1]? = some (.cells #[.int .i64 c] 3 (0, 0)) := by rw [← hwz]; exact row_set_ne (by omega) (row_set H_d3.out)
  have a4 : wz.heap[g + 1 + 1 + 1]? = some (.cells #[.int .i64 0] 3 (0, 0)) := by rw [← hwz]; exact row_set (row_set_ne (by omega) H_d4.out)
  have c3 := row_cell a3 0
  have c4 := row_cell a4 0
  simp at c3 c4
  have hgw := H_hg.out
  have hff : Fresh w wz := by
    rw [← hwz]
    exact (H_fa.out.setCell (p := ⟨g + 1 + 1, 0, none⟩) (fun h => by change g + 1 + 1 < w.heap.size at h; omega) _).setCell (p := ⟨g + 1 + 1 + 1, 0, none⟩) (fun h => by change g + 1 + 1 + 1 < w.heap.size at h; omega) _
  exact ⟨_, results_cells2 rfl _ _ (g + 1 + 1) (g + 1 + 1 + 1) _ _ rfl rfl (by simp [loadVar, go_sem, c3]) (by simp [loadVar, go_sem, c4]), rfl, hff⟩

set_option maxRecDepth 20000 in
set_option maxHeartbeats 4000000 in
theorem DecOrders_ok (z1 z2 e1 e2 c : Int) (w : World) (hc : c = -1 ∨ c = 0 ∨ c = 1) (hz1 : (wdig z1).length ≤ 300) (hz2 : (wdig z2).length ≤ 300) (he1 : -400 ≤ e1 ∧ e1 ≤ 400) (he2 : -400 ≤ e2 ∧ e2 ≤ 400) (hNG : NG ≤ w.heap.size)
    (hm : ∀ b1 v1 b2 v2 W, Fresh w W → ZI W b1 v1 z1 → ZI W b2 v2 z2 → b1 ≠ b2 → Calls Tryz.prog 22 #[sd b1 e1, sd b2 e2] W (fun r w' => r = .returned (.int .i64 c) ∧ Fresh W w')) :
    Calls Tryz.prog 10 #[dd z1 e1, dd z2 e2] w (fun r w' => r = .returned (.tuple #[.bool (decide (c = 0)), .bool (decide (c = 1)), .bool (decide (0 ≤ c)), .bool (decide (c = -1)), .bool (decide (c ≤ 0)), .int .i64 0]) ∧ Fresh w w') := by
  have hmf : ∀ (fn : Fn) (first cap : Array Value) (w : World), (Instr.makeFunc fn first cap).run Tryz.prog w = .ok (.func fn first cap) w := fun _ _ _ _ => rfl
  have hm1 := fun W (hW : Fresh w W) => made_any z1 e1 W hz1 he1 (Nat.le_trans hNG hW.size)
  have hm2 := fun W (hW : Fresh w W) => made_any z2 e2 W hz2 he2 (Nat.le_trans hNG hW.size)
  have ho0 := fun b1 v1 b2 v2 W (hW : Fresh w W) (h1 : ZI W b1 v1 z1) (h2 : ZI W b2 v2 z2) (hn : b1 ≠ b2) => DEqual_any b1 b2 e1 e2 c W hc (fun V hV => hm b1 v1 b2 v2 V (fresh_trans hW hV) (h1.fresh hV) (h2.fresh hV) hn)
  have ho1 := fun b1 v1 b2 v2 W (hW : Fresh w W) (h1 : ZI W b1 v1 z1) (h2 : ZI W b2 v2 z2) (hn : b1 ≠ b2) => DGreaterThan_any b1 b2 e1 e2 c W hc (fun V hV => hm b1 v1 b2 v2 V (fresh_trans hW hV) (h1.fresh hV) (h2.fresh hV) hn)
  have ho2 := fun b1 v1 b2 v2 W (hW : Fresh w W) (h1 : ZI W b1 v1 z1) (h2 : ZI W b2 v2 z2) (hn : b1 ≠ b2) => DGreaterThanOrEqual_any b1 b2 e1 e2 c W hc (fun V hV => hm b1 v1 b2 v2 V (fresh_trans hW hV) (h1.fresh hV) (h2.fresh hV) hn)
  have ho3 := fun b1 v1 b2 v2 W (hW : Fresh w W) (h1 : ZI W b1 v1 z1) (h2 : ZI W b2 v2 z2) (hn : b1 ≠ b2) => DLessThan_any b1 b2 e1 e2 c W hc (fun V hV => hm b1 v1 b2 v2 V (fresh_trans hW hV) (h1.fresh hV) (h2.fresh hV) hn)
  have ho4 := fun b1 v1 b2 v2 W (hW : Fresh w W) (h1 : ZI W b1 v1 z1) (h2 : ZI W b2 v2 z2) (hn : b1 ≠ b2) => DLessThanOrEqual_any b1 b2 e1 e2 c W hc (fun V hV => hm b1 v1 b2 v2 V (fresh_trans hW hV) (h1.fresh hV) (h2.fresh hV) hn)
  generalize decide (c = 0) = o0 at *
  generalize decide (c = 1) = o1 at *
  generalize decide (0 ≤ c) = o2 at *
  generalize decide (c = -1) = o3 at *
  generalize decide (c ≤ 0) = o4 at *
  clear hm hc
  unfold dd
  generalize bstr (wdig z1) = t1 at *
  generalize bstr (wdig z2) = t2 at *
  clear hz1 hz2 he1 he2 hNG
  have H_hm1 := Lib.hid hm1; clear hm1
  have H_hm2 := Lib.hid hm2; clear hm2
  have H_ho0 := Lib.hid ho0; clear ho0
  have H_ho1 := Lib.hid ho1; clear ho1
  have H_ho2 := Lib.hid ho2; clear ho2
  have H_ho3 := Lib.hid ho3; clear ho3
  have H_ho4 := Lib.hid ho4; clear ho4
  go_enter_defers Tryz.func10, Tryz.ntmps10
  go_wp2_with (fail)
  obtain ⟨g, hg⟩ : ∃ g, g = w.heap.size := ⟨_, rfl⟩
  have bx := boxes8 w #[.string t1, .int .i64 e1] #[.string t2, .int .i64 e2] #[.bool false] #[.bool false] #[.bool false] #[.bool false] #[.bool false] #[.int .i64 0] 23 23 4 4 4 4 4 3 g hg
  have H_bx := Lib.hid bx; clear bx
  generalize hw1 : (((((((w.alloc _).alloc _).alloc _).alloc _).alloc _).alloc _).alloc _).alloc _ = w1
  rw [← hg]
  obtain ⟨d1, d2, d3, d4, d5, d6, d7, d8, fa⟩ := H_bx.out w1 hw1
  have H_d1 := Lib.hid d1; clear d1
  have H_d2 := Lib.hid d2; clear d2
  have H_d3 := Lib.hid d3; clear d3
  have H_d4 := Lib.hid d4; clear d4
  have H_d5 := Lib.hid d5; clear d5
  have H_d6 := Lib.hid d6; clear d6
  have H_d7 := Lib.hid d7; clear d7
  have H_d8 := Lib.hid d8; clear d8
  have H_fa := Lib.hid fa; clear fa
  have H_hw1 := Lib.hid hw1; clear hw1
  have H_hg := Lib.hid hg; clear hg
  refine (H_hm1.out _ H_fa.out).mono ?_
  rintro e w2 ⟨b1, v1, rfl, y1, -, -, f2⟩
  have d1 := row_fresh H_d1.out f2
  have d2 := row_fresh H_d2.out f2
  have d3 := row_fresh H_d3.out f2
  have d4 := row_fresh H_d4.out f2
  have d5 := row_fresh H_d5.out f2
  have d6 := row_fresh H_d6.out f2
  have d7 := row_fresh H_d7.out f2
  have d8 := row_fresh H_d8.out f2
  have fa := fresh_trans H_fa.out f2
  obtain ⟨h1, hh1⟩ : ∃ h, h = w2.heap.size := ⟨_, rfl⟩
  have q8 := d8
  have H_q8 := Lib.hid q8
  clear q8
  have ak0 := row_cell d2 0
  have ak1 := row_cell d2 1
  simp at ak0 ak1
  have a0 := fun o => cell_fresh ak0 ((Keep.refl (fun _ => False) w2).alloc o)
  have a1 := fun o => cell_fresh ak1 ((Keep.refl (fun _ => False) w2).alloc o)
  clear ak0 ak1
  clear H_d1 H_d2 H_d3 H_d4 H_d5 H_d6 H_d7 H_d8 H_fa
  have H_d1 := Lib.hid d1; clear d1
  have H_d2 := Lib.hid d2; clear d2
  have H_d3 := Lib.hid d3; clear d3
  have H_d4 := Lib.hid d4; clear d4
  have H_d5 := Lib.hid d5; clear d5
  have H_d6 := Lib.hid d6; clear d6
  have H_d7 := Lib.hid d7; clear d7
  have H_d8 := Lib.hid d8; clear d8
  have H_fa := Lib.hid fa; clear fa
  have H_f2 := Lib.hid f2; clear f2
  have H_hh1 := Lib.hid hh1; clear hh1
  have H_y1 := Lib.hid y1; clear y1
  go_wp2_with (fail)
  generalize hw3 : w2.alloc _ = w3
  have f3 : Fresh w2 w3 := by rw [← hw3]; exact (Keep.refl _ _).alloc _
  have r1 : w3.heap[h1]? = some (.cells #[.pointer (some ⟨b1, 0, none⟩), .int .i32 e1] 49 (0, 0)) := by rw [← hw3, H_hh1.out]; exact heap_alloc_new w2 _
  rw [← H_hh1.out]
  have d1 := row_fresh H_d1.out f3
  have d2 := row_fresh H_d2.out f3
  have d3 := row_fresh H_d3.out f3
  have d4 := row_fresh H_d4.out f3
  have d5 := row_fresh H_d5.out f3
  have d6 := row_fresh H_d6.out f3
  have d7 := row_fresh H_d7.out f3
  have d8 := row_fresh H_d8.out f3
  have y1 := H_y1.out.fresh f3
  have fa := fresh_trans H_fa.out f3
  clear a0 a1
  clear H_d1 H_d2 H_d3 H_d4 H_d5 H_d6 H_d7 H_d8 H_fa H_y1
  have H_d1 := Lib.hid d1; clear d1
  have H_d2 := Lib.hid d2; clear d2
  have H_d3 := Lib.hid d3; clear d3
  have H_d4 := Lib.hid d4; clear d4
  have H_d5 := Lib.hid d5; clear d5
  have H_d6 := Lib.hid d6; clear d6
  have H_d7 := Lib.hid d7; clear d7
  have H_d8 := Lib.hid d8; clear d8
  have H_r1 := Lib.hid r1; clear r1
  have H_fa := Lib.hid fa; clear fa
  have H_f3 := Lib.hid f3; clear f3
  have H_hw3 := Lib.hid hw3; clear hw3
  have H_y1 := Lib.hid y1; clear y1
  refine (H_hm2.out _ H_fa.out).mono ?_
  rintro e w4 ⟨b2, v2, rfl, y2, gb, -, f4⟩
  have hne : b1 ≠ b2 := by have := H_y1.out.lt; omega
  clear gb
  have d1 := row_fresh H_d1.out f4
  have d2 := row_fresh H_d2.out f4
  have d3 := row_fresh H_d3.out f4
  have d4 := row_fresh H_d4.out f4
  have d5 := row_fresh H_d5.out f4
  have d6 := row_fresh H_d6.out f4
  have d7 := row_fresh H_d7.out f4
  have d8 := row_fresh H_d8.out f4
  have r1 := row_fresh H_r1.out f4
  have y1 := H_y1.out.fresh f4
  have fa := fresh_trans H_fa.out f4
  obtain ⟨h2, hh2⟩ : ∃ h, h = w4.heap.size := ⟨_, rfl⟩
  have d12 := r1
  have H_d12 := Lib.hid d12
  clear d12
  have ak0 := row_cell r1 0
  have ak1 := row_cell r1 1
  simp at ak0 ak1
  have a0 := fun o => cell_fresh ak0 ((Keep.refl (fun _ => False) w4).alloc o)
  have a1 := fun o => cell_fresh ak1 ((Keep.refl (fun _ => False) w4).alloc o)
  clear ak0 ak1
  clear H_d1 H_d2 H_d3 H_d4 H_d5 H_d6 H_d7 H_d8 H_r1 H_fa H_y1
  have H_d1 := Lib.hid d1; clear d1
  have H_d2 := Lib.hid d2; clear d2
  have H_d3 := Lib.hid d3; clear d3
  have H_d4 := Lib.hid d4; clear d4
  have H_d5 := Lib.hid d5; clear d5
  have H_d6 := Lib.hid d6; clear d6
  have H_d7 := Lib.hid d7; clear d7
  have H_d8 := Lib.hid d8; clear d8
  have H_r1 := Lib.hid r1; clear r1
  have H_fa := Lib.hid fa; clear fa
  have H_f4 := Lib.hid f4; clear f4
  have H_hh2 := Lib.hid hh2; clear hh2
  have H_y1 := Lib.hid y1; clear y1
  have H_y2 := Lib.hid y2; clear y2
  have H_hne := Lib.hid hne; clear hne
  go_wp2_with (fail)
  generalize hw5 : w4.alloc _ = w5
  have f5 : Fresh w4 w5 := by rw [← hw5]; exact (Keep.refl _ _).alloc _
  have r2 : w5.heap[h2]? = some (.cells #[.pointer (some ⟨b2, 0, none⟩), .int .i32 e2] 49 (0, 0)) := by rw [← hw5, H_hh2.out]; exact heap_alloc_new w4 _
  have r1 := row_fresh H_r1.out f5
  have hlt : g + 1 + 1 + 1 + 1 + 1 + 1 + 1 < w2.heap.size := by have := lt_of_row H_q8.out; omega
  rw [← H_hh2.out]
  have d1 := row_fresh H_d1.out f5
  have d2 := row_fresh H_d2.out f5
  have d3 := row_fresh H_d3.out f5
  have d4 := row_fresh H_d4.out f5
  have d5 := row_fresh H_d5.out f5
  have d6 := row_fresh H_d6.out f5
  have d7 := row_fresh H_d7.out f5
  have d8 := row_fresh H_d8.out f5
  have y1 := H_y1.out.fresh f5
  have y2 := H_y2.out.fresh f5
  have fa := fresh_trans H_fa.out f5
  clear a0 a1
  clear H_d1 H_d2 H_d3 H_d4 H_d5 H_d6 H_d7 H_d8 H_r1 H_fa H_y1 H_y2
  have H_d1 := Lib.hid d1; clear d1
  have H_d2 := Lib.hid d2; clear d2
  have H_d3 := Lib.hid d3; clear d3
  have H_d4 := Lib.hid d4; clear d4
  have H_d5 := Lib.hid d5; clear d5
  have H_d6 := Lib.hid d6; clear d6
  have H_d7 := Lib.hid d7; clear d7
  have H_d8 := Lib.hid d8; clear d8
  have H_fa := Lib.hid fa; clear fa
  have H_f5 := Lib.hid f5; clear f5
  have H_hw5 := Lib.hid hw5; clear hw5
  have H_y1 := Lib.hid y1; clear y1
  have H_y2 := Lib.hid y2; clear y2
  have H_r1 := Lib.hid r1; clear r1
  have H_r2 := Lib.hid r2; clear r2
  have H_hlt := Lib.hid hlt; clear hlt
  have k0 := row_cell H_r1.out 0
  have k1 := row_cell H_r1.out 1
  have k2 := row_cell H_r2.out 0
  have k3 := row_cell H_r2.out 1
  simp at k0 k1 k2 k3
  have hh12 : h1 < h2 := by have h3 := lt_of_row H_d12.out; rw [← H_hh2.out] at h3; exact h3
  have hlt2 : g + 1 + 1 + 1 + 1 + 1 + 1 + 1 < h1 := by rw [H_hh1.out]; exact H_hlt.out
  have H_hh12 := Lib.hid hh12; clear hh12
  have H_hlt2 := Lib.hid hlt2; clear hlt2
  refine wp_region_noPanic ?_
  refine wp_region_E (S := (fun (w' : World) => w'.cell? ⟨h1, 0, none⟩ = some (.pointer (some ⟨b1, 0, none⟩)) ∧ w'.cell? ⟨h1, 1, none⟩ = some (.int .i32 e1) ∧ w'.cell? ⟨h2, 0, none⟩ = some (.pointer (some ⟨b2, 0, none⟩)) ∧ w'.cell? ⟨h2, 1, none⟩ = some (.int .i32 e2))) 20 (by kernel_rfl) (by exact ⟨k0, k1, k2, k3⟩) (fun hHeld => ?_)
  refine wpAnyE_takeL (i := 0) (c := 2) (v := ?v0_1) rfl (by kernel_rfl) (fun _ _ _ h => h) ⟨by rfl, ?y0_1⟩ (by assumption) ?r0_1
  case y0_1 => (intro w hSw; go_split_ands; go_simp; try with_reducible rfl)
  try simp only [Act.put, yA, yB, yD, yE, yF]
  refine wpAnyE_takeL (i := 1) (c := 2) (v := ?v1_1) rfl (by kernel_rfl) (fun _ _ _ h => h) ⟨by rfl, ?y1_1⟩ (by assumption) ?r1_1
  case y1_1 => (intro w hSw; go_split_ands; go_simp; try with_reducible rfl)
  try simp only [Act.put, yA, yB, yC, yD, yE, yF]
  refine wpAnyE_takeL (i := 3) (c := 5) (v := ?v3_1) rfl (by kernel_rfl) (fun _ _ _ h => h) ⟨by rfl, ?y3_1⟩ (by assumption) ?r3_1
  case y3_1 => (intro w hSw; go_split_ands; go_simp; try with_reducible rfl)
  try simp only [Act.put, yA, yB, yC, yD, yE, yF]
  refine wpAnyE_takeL (i := 4) (c := 5) (v := ?v4_1) rfl (by kernel_rfl) (fun _ _ _ h => h) ⟨by rfl, ?y4_1⟩ (by assumption) ?r4_1
  case y4_1 => (intro w hSw; go_split_ands; go_simp; try with_reducible rfl)
  try simp only [Act.put, yA, yB, yC, yD, yE, yF]
  refine wpAnyE_takeL (i := 6) (c := 8) (v := ?v6_1) rfl (by kernel_rfl) (fun _ _ _ h => h) ⟨by rfl, ?y6_1⟩ (by assumption) ?r6_1
  case y6_1 => (intro w hSw; go_split_ands; go_simp; try with_reducible rfl)
  try simp only [Act.put, yA, yB, yC, yD, yE, yF]
  refine wpAnyE_takeL (i := 7) (c := 8) (v := ?v7_1) rfl (by kernel_rfl) (fun _ _ _ h => h) ⟨by rfl, ?y7_1⟩ (by assumption) ?r7_1
  case y7_1 => (intro w hSw; go_split_ands; go_simp; try with_reducible rfl)
  try simp only [Act.put, yA, yB, yC, yD, yE, yF]
  refine wpAnyE_takeL (i := 9) (c := 11) (v := ?v9_1) rfl (by kernel_rfl) (fun _ _ _ h => h) ⟨by rfl, ?y9_1⟩ (by assumption) ?r9_1
  case y9_1 => (intro w hSw; go_split_ands; go_simp; try with_reducible rfl)
  try simp only [Act.put, yA, yB, yC, yD, yE, yF]
  refine wpAnyE_takeL (i := 10) (c := 11) (v := ?v10_1) rfl (by kernel_rfl) (fun _ _ _ h => h) ⟨by rfl, ?y10_1⟩ (by assumption) ?r10_1
  case y10_1 => (intro w hSw; go_split_ands; go_simp; try with_reducible rfl)
  try simp only [Act.put, yA, yB, yC, yD, yE, yF]
  refine wpAnyE_takeL (i := 12) (c := 14) (v := ?v12_1) rfl (by kernel_rfl) (fun _ _ _ h => h) ⟨by rfl, ?y12_1⟩ (by assumption) ?r12_1
  case y12_1 => (intro w hSw; go_split_ands; go_simp; try with_reducible rfl)
  try simp only [Act.put, yA, yB, yC, yD, yE, yF]
  refine wpAnyE_takeL (i := 13) (c := 14) (v := ?v13_1) rfl (by kernel_rfl) (fun _ _ _ h => h) ⟨by rfl, ?y13_1⟩ (by assumption) ?r13_1
  case y13_1 => (intro w hSw; go_split_ands; go_simp; try with_reducible rfl)
  try simp only [Act.put, yA, yB, yC, yD, yE, yF]
  refine wpAnyE_one (i := 2) rfl (by kernel_rfl) (fun K hK => ?_)
  go_simp
  refine (H_ho0.out _ _ _ _ _ H_fa.out.drew (H_y1.out.fresh ?ca) (H_y2.out.fresh ?cb) H_hne.out).mono ?_; (case ca => exact (Keep.refl _ _).drew); (case cb => exact (Keep.refl _ _).drew); rintro r wa0 ⟨rfl, y⟩; have ff : Fresh w5 wa0 := y.of_drew; have j0 := cell_fresh k0 ff; have j1 := cell_fresh k1 ff; have j2 := cell_fresh k2 ff; have j3 := cell_fresh k3 ff; have H_ff0 := Lib.hid ff; clear y ff
  go_wp2_with (fail)
  have hHeld1 : ((fun (w' : World) => w'.cell? ⟨h1, 0, none⟩ = some (.pointer (some ⟨b1, 0, none⟩)) ∧ w'.cell? ⟨h1, 1, none⟩ = some (.int .i32 e1) ∧ w'.cell? ⟨h2, 0, none⟩ = some (.pointer (some ⟨b2, 0, none⟩)) ∧ w'.cell? ⟨h2, 1, none⟩ = some (.int .i32 e2))) _ := ⟨j0, j1, j2, j3⟩
  refine hK.out _ _ (fun _ => hHeld1) ?_
  clear hK K
  try simp only [Act.put, yA, yB, yC, yD, yE, yF]
  refine wpAnyE_one (i := 5) rfl (by kernel_rfl) (fun K hK => ?_)
  go_simp
  refine (H_ho1.out _ _ _ _ _ (fresh_trans H_fa.out H_ff0.out) (H_y1.out.fresh H_ff0.out) (H_y2.out.fresh H_ff0.out) H_hne.out).mono ?_; rintro r wa1 ⟨rfl, y⟩; have ff := fresh_trans H_ff0.out y; have n0 := cell_fresh k0 ff; have n1 := cell_fresh k1 ff; have n2 := cell_fresh k2 ff; have n3 := cell_fresh k3 ff; have H_ff1 := Lib.hid ff; clear y ff
  go_wp2_with (fail)
  have hHeld2 : ((fun (w' : World) => w'.cell? ⟨h1, 0, none⟩ = some (.pointer (some ⟨b1, 0, none⟩)) ∧ w'.cell? ⟨h1, 1, none⟩ = some (.int .i32 e1) ∧ w'.cell? ⟨h2, 0, none⟩ = some (.pointer (some ⟨b2, 0, none⟩)) ∧ w'.cell? ⟨h2, 1, none⟩ = some (.int .i32 e2))) _ := ⟨n0, n1, n2, n3⟩
  refine hK.out _ _ (fun _ => hHeld2) ?_
  clear hK K
  try simp only [Act.put, yA, yB, yC, yD, yE, yF]
  refine wpAnyE_one (i := 8) rfl (by kernel_rfl) (fun K hK => ?_)
  go_simp
  refine (H_ho2.out _ _ _ _ _ (fresh_trans H_fa.out H_ff1.out) (H_y1.out.fresh H_ff1.out) (H_y2.out.fresh H_ff1.out) H_hne.out).mono ?_; rintro r wa2 ⟨rfl, y⟩; have ff := fresh_trans H_ff1.out y; have u0 := cell_fresh k0 ff; have u1 := cell_fresh k1 ff; have u2 := cell_fresh k2 ff; have u3 := cell_fresh k3 ff; have H_ff2 := Lib.hid ff; clear y ff
  go_wp2_with (fail)
  have hHeld3 : ((fun (w' : World) => w'.cell? ⟨h1, 0, none⟩ = some (.pointer (some ⟨b1, 0, none⟩)) ∧ w'.cell? ⟨h1, 1, none⟩ = some (.int .i32 e1) ∧ w'.cell? ⟨h2, 0, none⟩ = some (.pointer (some ⟨b2, 0, none⟩)) ∧ w'.cell? ⟨h2, 1, none⟩ = some (.int .i32 e2))) _ := ⟨u0, u1, u2, u3⟩
  refine hK.out _ _ (fun _ => hHeld3) ?_
  clear hK K
  try simp only [Act.put, yA, yB, yC, yD, yE, yF]
  refine wpAnyE_one (i := 11) rfl (by kernel_rfl) (fun K hK => ?_)
  go_simp
  refine (H_ho3.out _ _ _ _ _ (fresh_trans H_fa.out H_ff2.out) (H_y1.out.fresh H_ff2.out) (H_y2.out.fresh H_ff2.out) H_hne.out).mono ?_; rintro r wa3 ⟨rfl, y⟩; have ff := fresh_trans H_ff2.out y; have x0 := cell_fresh k0 ff; have x1 := cell_fresh k1 ff; have x2 := cell_fresh k2 ff; have x3 := cell_fresh k3 ff; have H_ff3 := Lib.hid ff; clear y ff
  go_wp2_with (fail)
  have hHeld4 : ((fun (w' : World) => w'.cell? ⟨h1, 0, none⟩ = some (.pointer (some ⟨b1, 0, none⟩)) ∧ w'.cell? ⟨h1, 1, none⟩ = some (.int .i32 e1) ∧ w'.cell? ⟨h2, 0, none⟩ = some (.pointer (some ⟨b2, 0, none⟩)) ∧ w'.cell? ⟨h2, 1, none⟩ = some (.int .i32 e2))) _ := ⟨x0, x1, x2, x3⟩
  refine hK.out _ _ (fun _ => hHeld4) ?_
  clear hK K
  try simp only [Act.put, yA, yB, yC, yD, yE, yF]
  refine wpAnyE_one (i := 14) rfl (by kernel_rfl) (fun K hK => ?_)
  go_simp
  refine (H_ho4.out _ _ _ _ _ (fresh_trans H_fa.out H_ff3.out) (H_y1.out.fresh H_ff3.out) (H_y2.out.fresh H_ff3.out) H_hne.out).mono ?_; rintro r wa4 ⟨rfl, y⟩; have ff := fresh_trans H_ff3.out y; have s0 := cell_fresh k0 ff; have s1 := cell_fresh k1 ff; have s2 := cell_fresh k2 ff; have s3 := cell_fresh k3 ff; have c3 := row_fresh H_d3.out ff; have p3 := row_cell c3 0; have q3 := frozen_of_row _ _ 0 _ _ c3; have c4 := row_fresh H_d4.out ff; have p4 := row_cell c4 0; have q4 := frozen_of_row _ _ 0 _ _ c4; have c5 := row_fresh H_d5.out ff; have p5 := row_cell c5 0; have q5 := frozen_of_row _ _ 0 _ _ c5; have c6 := row_fresh H_d6.out ff; have p6 := row_cell c6 0; have q6 := frozen_of_row _ _ 0 _ _ c6; have c7 := row_fresh H_d7.out ff; have p7 := row_cell c7 0; have q7 := frozen_of_row _ _ 0 _ _ c7; have c8 := row_fresh H_d8.out ff; have p8 := row_cell c8 0; have q8 := frozen_of_row _ _ 0 _ _ c8; simp at p3 p4 p5 p6 p7 p8; have H_c3 := Lib.hid c3; clear c3; have H_c4 := Lib.hid c4; clear c4; have H_c5 := Lib.hid c5; clear c5; have H_c6 := Lib.hid c6; clear c6; have H_c7 := Lib.hid c7; clear c7; have H_c8 := Lib.hid c8; clear c8; have H_ff4 := Lib.hid ff; clear y ff
  go_wp2_with (fail)
  have hHeld5 : ((fun (w' : World) => w'.cell? ⟨h1, 0, none⟩ = some (.pointer (some ⟨b1, 0, none⟩)) ∧ w'.cell? ⟨h1, 1, none⟩ = some (.int .i32 e1) ∧ w'.cell? ⟨h2, 0, none⟩ = some (.pointer (some ⟨b2, 0, none⟩)) ∧ w'.cell? ⟨h2, 1, none⟩ = some (.int .i32 e2))) _ := ⟨s0, s1, s2, s3⟩
  refine hK.out _ _ (fun _ => hHeld5) ?_
  clear hK K
  try simp only [Act.put, yA, yB, yC, yD, yE, yF]
  refine wpAnyE_one (i := 15) rfl (by kernel_rfl) (fun K hK => ?_)
  go_simp
  skip
  refine hK.out _ _ (fun _ => ?hs15_1) ?_
  case hs15_1 => exact ⟨(far_cell (by have := H_hh12.out; have := H_hlt2.out; omega) s0), (far_cell (by have := H_hh12.out; have := H_hlt2.out; omega) s1), (far_cell (by have := H_hh12.out; have := H_hlt2.out; omega) s2), (far_cell (by have := H_hh12.out; have := H_hlt2.out; omega) s3)⟩
  clear hK K
  try simp only [Act.put, yA, yB, yC, yD, yE, yF]
  refine wpAnyE_one (i := 16) rfl (by kernel_rfl) (fun K hK => ?_)
  go_simp
  skip
  refine hK.out _ _ (fun _ => ?hs16_1) ?_
  case hs16_1 => exact ⟨(far_cell (by have := H_hh12.out; have := H_hlt2.out; omega) (far_cell (by have := H_hh12.out; have := H_hlt2.out; omega) s0)), (far_cell (by have := H_hh12.out; have := H_hlt2.out; omega) (far_cell (by have := H_hh12.out; have := H_hlt2.out; omega) s1)), (far_cell (by have := H_hh12.out; have := H_hlt2.out; omega) (far_cell (by have := H_hh12.out; have := H_hlt2.out; omega) s2)), (far_cell (by have := H_hh12.out; have := H_hlt2.out; omega) (far_cell (by have := H_hh12.out; have := H_hlt2.out; omega) s3))⟩
  clear hK K
  try simp only [Act.put, yA, yB, yC, yD, yE, yF]
  refine wpAnyE_one (i := 17) rfl (by kernel_rfl) (fun K hK => ?_)
  go_simp
  skip
  refine hK.out _ _ (fun _ => ?hs17_1) ?_
  case hs17_1 => exact ⟨(far_cell (by have := H_hh12.out; have := H_hlt2.out; omega) (far_cell (by have := H_hh12.out; have := H_hlt2.out; omega) (far_cell (by have := H_hh12.out; have := H_hlt2.out; omega) s0))), (far_cell (by have := H_hh12.out; have := H_hlt2.out; omega) (far_cell (by have := H_hh12.out; have := H_hlt2.out; omega) (far_cell (by have := H_hh12.out; have := H_hlt2.out; omega) s1))), (far_cell (by have := H_hh12.out; have := H_hlt2.out; omega) (far_cell (by have := H_hh12.out; have := H_hlt2.out; omega) (far_cell (by have := H_hh12.out; have := H_hlt2.out; omega) s2))), (far_cell (by have := H_hh12.out; have := H_hlt2.out; omega) (far_cell (by have := H_hh12.out; have := H_hlt2.out; omega) (far_cell (by have := H_hh12.out; have := H_hlt2.out; omega) s3)))⟩
  clear hK K
  try simp only [Act.put, yA, yB, yC, yD, yE, yF]
  refine wpAnyE_one (i := 18) rfl (by kernel_rfl) (fun K hK => ?_)
  go_simp
  skip
  refine hK.out _ _ (fun _ => ?hs18_1) ?_
  case hs18_1 => exact ⟨(far_cell (by have := H_hh12.out; have := H_hlt2.out; omega) (far_cell (by have := H_hh12.out; have := H_hlt2.out; omega) (far_cell (by have := H_hh12.out; have := H_hlt2.out; omega) (far_cell (by have := H_hh12.out; have := H_hlt2.out; omega) s0)))), (far_cell (by have := H_hh12.out; have := H_hlt2.out; omega) (far_cell (by have := H_hh12.out; have := H_hlt2.out; omega) (far_cell (by have := H_hh12.out; have := H_hlt2.out; omega) (far_cell (by have := H_hh12.out; have := H_hlt2.out; omega) s1)))), (far_cell (by have := H_hh12.out; have := H_hlt2.out; omega) (far_cell (by have := H_hh12.out; have := H_hlt2.out; omega) (far_cell (by have := H_hh12.out; have := H_hlt2.out; omega) (far_cell (by have := H_hh12.out; have := H_hlt2.out; omega) s2)))), (far_cell (by have := H_hh12.out; have := H_hlt2.out; omega) (far_cell (by have := H_hh12.out; have := H_hlt2.out; omega) (far_cell (by have := H_hh12.out; have := H_hlt2.out; omega) (far_cell (by have := H_hh12.out; have := H_hlt2.out; omega) s3))))⟩
  clear hK K
  try simp only [Act.put, yA, yB, yC, yD, yE, yF]
  refine wpAnyE_one (i := 19) rfl (by kernel_rfl) (fun K hK => ?_)
  go_simp
  skip
  refine hK.out _ _ (fun _ => ?hs19_1) ?_
  case hs19_1 => exact ⟨(far_cell (by have := H_hh12.out; have := H_hlt2.out; omega) (far_cell (by have := H_hh12.out; have := H_hlt2.out; omega) (far_cell (by have := H_hh12.out; have := H_hlt2.out; omega) (far_cell (by have := H_hh12.out; have := H_hlt2.out; omega) (far_cell (by have := H_hh12.out; have := H_hlt2.out; omega) s0))))), (far_cell (by have := H_hh12.out; have := H_hlt2.out; omega) (far_cell (by have := H_hh12.out; have := H_hlt2.out; omega) (far_cell (by have := H_hh12.out; have := H_hlt2.out; omega) (far_cell (by have := H_hh12.out; have := H_hlt2.out; omega) (far_cell (by have := H_hh12.out; have := H_hlt2.out; omega) s1))))), (far_cell (by have := H_hh12.out; have := H_hlt2.out; omega) (far_cell (by have := H_hh12.out; have := H_hlt2.out; omega) (far_cell (by have := H_hh12.out; have := H_hlt2.out; omega) (far_cell (by have := H_hh12.out; have := H_hlt2.out; omega) (far_cell (by have := H_hh12.out; have := H_hlt2.out; omega) s2))))), (far_cell (by have := H_hh12.out; have := H_hlt2.out; omega) (far_cell (by have := H_hh12.out; have := H_hlt2.out; omega) (far_cell (by have := H_hh12.out; have := H_hlt2.out; omega) (far_cell (by have := H_hh12.out; have := H_hlt2.out; omega) (far_cell (by have := H_hh12.out; have := H_hlt2.out; omega) s3)))))⟩
  clear hK K
  try simp only [Act.put, yA, yB, yC, yD, yE, yF]
  refine wpAnyE_one (i := 20) rfl (by kernel_rfl) (fun K hK => ?_)
  go_simp
  refine hK.out _ _ (fun h => Bool.noConfusion (show true = false from h)) ?_
  clear hK K
  try simp only [Act.put, yA, yB, yC, yD, yE, yF]
  refine wpAnyE_done (by kernel_rfl) ?_ _
  refine NoPanic.normal ?_
  go_wp2_with (fail)
  refine leaves_cons (f := 23) (args := #[.pointer (some ⟨g + 1 + 1, 0, none⟩), .pointer (some ⟨g + 1 + 1 + 1, 0, none⟩), .pointer (some ⟨g + 1 + 1 + 1 + 1, 0, none⟩), .pointer (some ⟨g + 1 + 1 + 1 + 1 + 1, 0, none⟩), .pointer (some ⟨g + 1 + 1 + 1 + 1 + 1 + 1, 0, none⟩), .pointer (some ⟨g + 1 + 1 + 1 + 1 + 1 + 1 + 1, 0, none⟩)]) (by simp) (by simp [go_sem]) ?_
  refine (DecOrders1_idle _ _ _ _ _ _ _).mono ?_
  rintro e u' w'' ⟨rfl, rfl, rfl⟩
  generalize hwz : (((((wa4.setCell _ _).setCell _ _).setCell _ _).setCell _ _).setCell _ _).setCell _ _ = wz
  have a0 : wz.heap[g + 1 + 1]? = some (.cells #[.bool o0] 4 (0, 0)) := by rw [← hwz]; exact (row_set_ne (by omega) (row_set_ne (by omega) (row_set_ne (by omega) (row_set_ne (by omega) (row_set_ne (by omega) (row_set H_c3.out))))))
  have l0 := row_cell a0 0
  have a1 : wz.heap[g + 1 + 1 + 1]? = some (.cells #[.bool o1] 4 (0, 0)) := by rw [← hwz]; exact (row_set_ne (by omega) (row_set_ne (by omega) (row_set_ne (by omega) (row_set_ne (by omega) (row_set (row_set_ne (by omega) H_c4.out))))))
  have l1 := row_cell a1 0
  have a2 : wz.heap[g + 1 + 1 + 1 + 1]? = some (.cells #[.bool o2] 4 (0, 0)) := by rw [← hwz]; exact (row_set_ne (by omega) (row_set_ne (by omega) (row_set_ne (by omega) (row_set (row_set_ne (by omega) (row_set_ne (by omega) H_c5.out))))))
  have l2 := row_cell a2 0
  have a3 : wz.heap[g + 1 + 1 + 1 + 1 + 1]? = some (.cells #[.bool o3] 4 (0, 0)) := by rw [← hwz]; exact (row_set_ne (by omega) (row_set_ne (by omega) (row_set (row_set_ne (by omega) (row_set_ne (by omega) (row_set_ne (by omega) H_c6.out))))))
  have l3 := row_cell a3 0
  have a4 : wz.heap[g + 1 + 1 + 1 + 1 + 1 + 1]? = some (.cells #[.bool o4] 4 (0, 0)) := by rw [← hwz]; exact (row_set_ne (by omega) (row_set (row_set_ne (by omega) (row_set_ne (by omega) (row_set_ne (by omega) (row_set_ne (by omega) H_c7.out))))))
  have l4 := row_cell a4 0
  have a5 : wz.heap[g + 1 + 1 + 1 + 1 + 1 + 1 + 1]? = some (.cells #[.int .i64 0] 3 (0, 0)) := by rw [← hwz]; exact (row_set (row_set_ne (by omega) (row_set_ne (by omega) (row_set_ne (by omega) (row_set_ne (by omega) (row_set_ne (by omega) H_c8.out))))))
  have l5 := row_cell a5 0
  simp at l0 l1 l2 l3 l4 l5
  have hgw := H_hg.out
  have hff : Fresh w wz := by
    rw [← hwz]
    exact (((((((fresh_trans H_fa.out H_ff4.out).setCell (p := ⟨g + 1 + 1, 0, none⟩) (fun h => by change g + 1 + 1 < w.heap.size at h; omega) _).setCell (p := ⟨g + 1 + 1 + 1, 0, none⟩) (fun h => by change g + 1 + 1 + 1 < w.heap.size at h; omega) _).setCell (p := ⟨g + 1 + 1 + 1 + 1, 0, none⟩) (fun h => by change g + 1 + 1 + 1 + 1 < w.heap.size at h; omega) _).setCell (p := ⟨g + 1 + 1 + 1 + 1 + 1, 0, none⟩) (fun h => by change g + 1 + 1 + 1 + 1 + 1 < w.heap.size at h; omega) _).setCell (p := ⟨g + 1 + 1 + 1 + 1 + 1 + 1, 0, none⟩) (fun h => by change g + 1 + 1 + 1 + 1 + 1 + 1 < w.heap.size at h; omega) _).setCell (p := ⟨g + 1 + 1 + 1 + 1 + 1 + 1 + 1, 0, none⟩) (fun h => by change g + 1 + 1 + 1 + 1 + 1 + 1 + 1 < w.heap.size at h; omega) _)
  exact ⟨_, results_cells6 rfl _ _ (g + 1 + 1) (g + 1 + 1 + 1) (g + 1 + 1 + 1 + 1) (g + 1 + 1 + 1 + 1 + 1) (g + 1 + 1 + 1 + 1 + 1 + 1) (g + 1 + 1 + 1 + 1 + 1 + 1 + 1) rfl rfl rfl rfl rfl rfl (by simp [loadVar, go_sem, l0]) (by simp [loadVar, go_sem, l1]) (by simp [loadVar, go_sem, l2]) (by simp [loadVar, go_sem, l3]) (by simp [loadVar, go_sem, l4]) (by simp [loadVar, go_sem, l5]), rfl, hff⟩

theorem DecCmp_fit (z1 z2 e1 e2 m c : Int) (w : World) (hG : Glob w) (hz1 : z1.natAbs < 10 ^ 60) (hz2 : z2.natAbs < 10 ^ 60) (he1 : -60 ≤ e1 ∧ e1 ≤ 60) (he2 : -60 ≤ e2 ∧ e2 ≤ 60) (hm : m = min e1 e2) (hcc : cmpZ (z1 * ((10 ^ (e1 - m).toNat : Nat) : Int)) (z2 * ((10 ^ (e2 - m).toNat : Nat) : Int)) = c) :
    Calls Tryz.prog 9 #[dd z1 e1, dd z2 e2] w (fun r w' => r = .returned (.tuple #[.int .i64 c, .int .i64 0]) ∧ Fresh w w') := by
  have hc : c = -1 ∨ c = 0 ∨ c = 1 := by rw [← hcc]; exact cmpZ_ways _ _
  exact DecCmp_ok z1 z2 e1 e2 c w (Nat.le_trans (wdig_len_le hz1 (by omega)) (by omega)) (Nat.le_trans (wdig_len_le hz2 (by omega)) (by omega)) (by omega) (by omega) hG.1
    (fun b1 v1 b2 v2 W hW hx hy hne => by rw [← hcc]; exact DCmp_any b1 b2 v1 v2 z1 z2 e1 e2 m W (hG.fresh hW) (wpow7_of hz1) (wpow7_of hz2) hx hy hne he1 he2 hm)

theorem DecOrders_fit (z1 z2 e1 e2 m c : Int) (w : World) (hG : Glob w) (hz1 : z1.natAbs < 10 ^ 60) (hz2 : z2.natAbs < 10 ^ 60) (he1 : -60 ≤ e1 ∧ e1 ≤ 60) (he2 : -60 ≤ e2 ∧ e2 ≤ 60) (hm : m = min e1 e2) (hcc : cmpZ (z1 * ((10 ^ (e1 - m).toNat : Nat) : Int)) (z2 * ((10 ^ (e2 - m).toNat : Nat) : Int)) = c) :
    Calls Tryz.prog 10 #[dd z1 e1, dd z2 e2] w (fun r w' => r = .returned (.tuple #[.bool (decide (c = 0)), .bool (decide (c = 1)), .bool (decide (0 ≤ c)), .bool (decide (c = -1)), .bool (decide (c ≤ 0)), .int .i64 0]) ∧ Fresh w w') := by
  have hc : c = -1 ∨ c = 0 ∨ c = 1 := by rw [← hcc]; exact cmpZ_ways _ _
  exact DecOrders_ok z1 z2 e1 e2 c w hc (Nat.le_trans (wdig_len_le hz1 (by omega)) (by omega)) (Nat.le_trans (wdig_len_le hz2 (by omega)) (by omega)) (by omega) (by omega) hG.1
    (fun b1 v1 b2 v2 W hW hx hy hne => by rw [← hcc]; exact DCmp_any b1 b2 v1 v2 z1 z2 e1 e2 m W (hG.fresh hW) (wpow7_of hz1) (wpow7_of hz2) hx hy hne he1 he2 hm)

end Go.Proofs.YtjjolcjeiogdmaaGreatDoor
