/- The contract of impl.DecAdd. Printed by gen_id.py Add. -/
import Derived.Test.YtjjolcjeiogdmaaGreatDoorK9
import Derived.Test.YtjjolcjeiogdmaaGreatDoorK11
import Derived.Test.YtjjolcjeiogdmaaGreatDoorK20
namespace Go.Proofs.YtjjolcjeiogdmaaGreatDoor
open Go.RowKit

/-- a decimal of the thin package -/
abbrev dd (z e : Int) : Value := .agg #[.string (bstr (wdig z)), .int .i64 e]

theorem DecAdd1_idle (p q : Addr) (w : World) :
    CallsD Tryz.prog 37 #[.pointer (some p), .pointer (some q)] .returning w fun e u' w' => e = .returned (.tuple #[]) ∧ u' = .returning ∧ w' = w := by
  refine callsD_of_wpS Tryz.func37 rfl fun c₀ cs hu => ?_
  apply wpS_seq
  apply wpS_region
  simp [wpOpsS, go_sem, recoverD, hu, Tryz.ntmps37, Exit.thenS]
  refine wpS_cond (t := false) (by simp [Act.eval, Array.replicate]) ?_
  simp only [Bool.false_eq_true, if_false]
  refine wpS_of_wp (wp_skip ?_)
  cases c₀
  simp_all [bodyPostS, results, Tryz.results37]

set_option maxRecDepth 20000 in
set_option maxHeartbeats 4000000 in
theorem DecAdd_ok (z1 z2 zr e1 e2 er : Int) (p : Nat) (w : World) (hz1 : (wdig z1).length ≤ 300) (hz2 : (wdig z2).length ≤ 300) (he1 : -400 ≤ e1 ∧ e1 ≤ 400) (he2 : -400 ≤ e2 ∧ e2 ≤ 400) (her : -2147483648 ≤ er ∧ er ≤ 2147483647)
    (hp : p ≤ 600) (hzr : zr.natAbs < 10 ^ p) (hNG : NG ≤ w.heap.size)
    (hm : ∀ b1 v1 b2 v2 W, Fresh w W → ZI W b1 v1 z1 → ZI W b2 v2 z2 → Calls Tryz.prog 38 #[sd b1 e1, sd b2 e2] W (fun r w' => ∃ b v, r = .returned (sd b er) ∧ ZI w' b v zr ∧ Fresh W w')) :
    Calls Tryz.prog 14 #[dd z1 e1, dd z2 e2] w (fun r w' => r = .returned (.tuple #[dd zr er, .int .i64 0]) ∧ Fresh w w') := by
  have hmf : ∀ (fn : Fn) (first cap : Array Value) (w : World), (Instr.makeFunc fn first cap).run Tryz.prog w = .ok (.func fn first cap) w := fun _ _ _ _ => rfl
  have hm1 := fun W (hW : Fresh w W) => made_any z1 e1 W hz1 he1 (Nat.le_trans hNG hW.size)
  have hm2 := fun W (hW : Fresh w W) => made_any z2 e2 W hz2 he2 (Nat.le_trans hNG hW.size)
  have hdc := fun b v W (hx : ZI W b v zr) => dec_any b v zr er p W her hx hp hzr
  unfold dd
  generalize bstr (wdig z1) = t1 at *
  generalize bstr (wdig z2) = t2 at *
  generalize bstr (wdig zr) = tr at *
  clear hz1 hz2 he1 he2 her hzr hNG hp
  have H_hm := Lib.hid hm; clear hm
  have H_hm1 := Lib.hid hm1; clear hm1
  have H_hm2 := Lib.hid hm2; clear hm2
  have H_hdc := Lib.hid hdc; clear hdc
  go_enter_defers Tryz.func14, Tryz.ntmps14
  go_wp2_with (fail)
  obtain ⟨g, hg⟩ : ∃ g, g = w.heap.size := ⟨_, rfl⟩
  have bx := boxes4 w #[.string t1, .int .i64 e1] #[.string t2, .int .i64 e2] #[.string ⟨#[]⟩, .int .i64 0] #[.int .i64 0] 23 23 23 3 g hg
  have H_bx := Lib.hid bx; clear bx
  generalize hw1 : (((w.alloc _).alloc _).alloc _).alloc _ = w1
  rw [← hg]
  obtain ⟨d1, d2, d3, d4, fa⟩ := H_bx.out w1 hw1
  have H_d1 := Lib.hid d1; clear d1
  have H_d2 := Lib.hid d2; clear d2
  have H_d3 := Lib.hid d3; clear d3
  have H_d4 := Lib.hid d4; clear d4
  have H_fa := Lib.hid fa; clear fa
  have H_hw1 := Lib.hid hw1; clear hw1
  have H_hg := Lib.hid hg; clear hg
  refine (H_hm1.out _ H_fa.out).mono ?_
  rintro e w2 ⟨b1, v1, rfl, y1, -, -, f2⟩
  have d1 := row_fresh H_d1.out f2
  have d2 := row_fresh H_d2.out f2
  have d3 := row_fresh H_d3.out f2
  have d4 := row_fresh H_d4.out f2
  have fa := fresh_trans H_fa.out f2
  obtain ⟨h1, hh1⟩ : ∃ h, h = w2.heap.size := ⟨_, rfl⟩
  have ak0 := row_cell d2 0
  have ak1 := row_cell d2 1
  simp at ak0 ak1
  have a0 := fun o => cell_fresh ak0 ((Keep.refl (fun _ => False) w2).alloc o)
  have a1 := fun o => cell_fresh ak1 ((Keep.refl (fun _ => False) w2).alloc o)
  clear ak0 ak1
  clear H_d1 H_d2 H_d3 H_d4 H_fa
  have H_d1 := Lib.hid d1; clear d1
  have H_d2 := Lib.hid d2; clear d2
  have H_d3 := Lib.hid d3; clear d3
  have H_d4 := Lib.hid d4; clear d4
  have H_fa := Lib.hid fa; clear fa
  have H_f2 := Lib.hid f2; clear f2
  have H_hh1 := Lib.hid hh1; clear hh1
  have H_y1 := Lib.hid y1; clear y1
  go_wp2_with (fail)
  generalize hw3 : w2.alloc _ = w3
  have f3 : Fresh w2 w3 := by rw [← hw3]; exact (Keep.refl _ _).alloc _
  have r1 : w3.heap[h1]? = some (.cells #[.pointer (some ⟨b1, 0, none⟩), .int .i32 e1] 49 (0, 0)) := by rw [← hw3, H_hh1.out]; exact heap_alloc_new w2 _
  rw [← H_hh1.out]
  have d1 := row_fresh H_d1.out f3
  have d2 := row_fresh H_d2.out f3
  have d3 := row_fresh H_d3.out f3
  have d4 := row_fresh H_d4.out f3
  have y1 := H_y1.out.fresh f3
  have fa := fresh_trans H_fa.out f3
  clear a0 a1
  clear H_d1 H_d2 H_d3 H_d4 H_fa H_y1
  have H_d1 := Lib.hid d1; clear d1
  have H_d2 := Lib.hid d2; clear d2
  have H_d3 := Lib.hid d3; clear d3
  have H_d4 := Lib.hid d4; clear d4
  have H_r1 := Lib.hid r1; clear r1
  have H_fa := Lib.hid fa; clear fa
  have H_f3 := Lib.hid f3; clear f3
  have H_hw3 := Lib.hid hw3; clear hw3
  have H_y1 := Lib.hid y1; clear y1
  refine (H_hm2.out _ H_fa.out).mono ?_
  rintro e w4 ⟨b2, v2, rfl, y2, -, -, f4⟩
  have d1 := row_fresh H_d1.out f4
  have d2 := row_fresh H_d2.out f4
  have d3 := row_fresh H_d3.out f4
  have d4 := row_fresh H_d4.out f4
  have r1 := row_fresh H_r1.out f4
  have y1 := H_y1.out.fresh f4
  have fa := fresh_trans H_fa.out f4
  obtain ⟨h2, hh2⟩ : ∃ h, h = w4.heap.size := ⟨_, rfl⟩
  have ak0 := row_cell r1 0
  have ak1 := row_cell r1 1
  simp at ak0 ak1
  have a0 := fun o => cell_fresh ak0 ((Keep.refl (fun _ => False) w4).alloc o)
  have a1 := fun o => cell_fresh ak1 ((Keep.refl (fun _ => False) w4).alloc o)
  clear ak0 ak1
  clear H_d1 H_d2 H_d3 H_d4 H_r1 H_fa H_y1
  have H_d1 := Lib.hid d1; clear d1
  have H_d2 := Lib.hid d2; clear d2
  have H_d3 := Lib.hid d3; clear d3
  have H_d4 := Lib.hid d4; clear d4
  have H_r1 := Lib.hid r1; clear r1
  have H_fa := Lib.hid fa; clear fa
  have H_f4 := Lib.hid f4; clear f4
  have H_hh2 := Lib.hid hh2; clear hh2
  have H_y1 := Lib.hid y1; clear y1
  have H_y2 := Lib.hid y2; clear y2
  go_wp2_with (fail)
  generalize hw5 : w4.alloc _ = w5
  have f5 : Fresh w4 w5 := by rw [← hw5]; exact (Keep.refl _ _).alloc _
  rw [← H_hh2.out]
  have d1 := row_fresh H_d1.out f5
  have d2 := row_fresh H_d2.out f5
  have d3 := row_fresh H_d3.out f5
  have d4 := row_fresh H_d4.out f5
  have y1 := H_y1.out.fresh f5
  have y2 := H_y2.out.fresh f5
  have fa := fresh_trans H_fa.out f5
  clear a0 a1
  clear H_d1 H_d2 H_d3 H_d4 H_r1 H_fa H_y1 H_y2
  have H_d1 := Lib.hid d1; clear d1
  have H_d2 := Lib.hid d2; clear d2
  have H_d3 := Lib.hid d3; clear d3
  have H_d4 := Lib.hid d4; clear d4
  have H_fa := Lib.hid fa; clear fa
  have H_f5 := Lib.hid f5; clear f5
  have H_hw5 := Lib.hid hw5; clear hw5
  have H_y1 := Lib.hid y1; clear y1
  have H_y2 := Lib.hid y2; clear y2
  refine (H_hm.out _ _ _ _ _ H_fa.out H_y1.out H_y2.out).mono ?_
  rintro e w6 ⟨b, v, rfl, y, f6⟩
  have d1 := row_fresh H_d1.out f6
  have d2 := row_fresh H_d2.out f6
  have d3 := row_fresh H_d3.out f6
  have d4 := row_fresh H_d4.out f6
  have fa := fresh_trans H_fa.out f6
  clear H_d1 H_d2 H_d3 H_d4 H_fa
  have H_d1 := Lib.hid d1; clear d1
  have H_d2 := Lib.hid d2; clear d2
  have H_d3 := Lib.hid d3; clear d3
  have H_d4 := Lib.hid d4; clear d4
  have H_fa := Lib.hid fa; clear fa
  have H_f6 := Lib.hid f6; clear f6
  have H_y := Lib.hid y; clear y
  go_wp2_with (fail)
  refine (H_hdc.out _ _ _ H_y.out).mono ?_
  rintro e w8 ⟨rfl, f8⟩
  have d1 := row_fresh H_d1.out f8
  have d2 := row_fresh H_d2.out f8
  have d3 := row_fresh H_d3.out f8
  have d4 := row_fresh H_d4.out f8
  have fa := fresh_trans H_fa.out f8
  have p0 := row_cell d3 0
  have p1 := row_cell d3 1
  have p3 := row_cell d4 0
  simp at p0 p1 p3
  have q0 : w8.frozen? ⟨g + 1 + 1, 0, none⟩ = false := frozen_of_row _ _ _ _ _ d3
  have q1 : w8.frozen? ⟨g + 1 + 1, 1, none⟩ = false := frozen_of_row _ _ _ _ _ d3
  have q3 : w8.frozen? ⟨g + 1 + 1 + 1, 0, none⟩ = false := frozen_of_row _ _ _ _ _ d4
  clear H_d1 H_d2 H_d3 H_d4 H_fa
  have H_d1 := Lib.hid d1; clear d1
  have H_d2 := Lib.hid d2; clear d2
  have H_d3 := Lib.hid d3; clear d3
  have H_d4 := Lib.hid d4; clear d4
  have H_fa := Lib.hid fa; clear fa
  have H_f8 := Lib.hid f8; clear f8
  go_wp2_with (fail)
  refine leaves_cons (f := 37) (args := #[.pointer (some ⟨g + 1 + 1, 0, none⟩), .pointer (some ⟨g + 1 + 1 + 1, 0, none⟩)]) (by simp) (by simp [go_sem]) ?_
  refine (DecAdd1_idle _ _ _).mono ?_
  rintro e u' w'' ⟨rfl, rfl, rfl⟩
  refine ⟨.tuple #[.agg #[.string tr, .int .i64 er], .int .i64 0], results_cell_cell rfl _ _ (g + 1 + 1) 23 #[.string tr, .int .i64 er] (0, 0) _ (g + 1 + 1 + 1) _ rfl rfl ?_ Tryz.underlying23 rfl (by kernel_rfl) ?_, ?_⟩
  · rw [row_far (by omega)]; exact row_set (row_set H_d3.out)
  · have hcell : (((w8.setCell ⟨g + 1 + 1, 0, none⟩ (.string tr)).setCell ⟨g + 1 + 1, 1, none⟩ (.int .i64 er)).setCell ⟨g + 1 + 1 + 1, 0, none⟩ (.int .i64 0)).cell? ⟨g + 1 + 1 + 1, 0, none⟩ = some (.int .i64 0) :=
      cell?_setCell_eq rfl (by rw [far2 (by omega) p3]; rfl)
    simp [loadVar, go_sem, hcell]
  · have hgw := H_hg.out
    exact ⟨rfl, ((H_fa.out.setCell (p := ⟨g + 1 + 1, 0, none⟩) (fun h => by change g + 1 + 1 < w.heap.size at h; omega) _).setCell (p := ⟨g + 1 + 1, 1, none⟩) (fun h => by change g + 1 + 1 < w.heap.size at h; omega) _).setCell (p := ⟨g + 1 + 1 + 1, 0, none⟩) (fun h => by change g + 1 + 1 + 1 < w.heap.size at h; omega) _⟩

end Go.Proofs.YtjjolcjeiogdmaaGreatDoor

/- The contract of impl.DecSub. Printed by gen_id.py Sub. -/
namespace Go.Proofs.YtjjolcjeiogdmaaGreatDoor
open Go.RowKit

theorem DecSub1_idle (p q : Addr) (w : World) :
    CallsD Tryz.prog 41 #[.pointer (some p), .pointer (some q)] .returning w fun e u' w' => e = .returned (.tuple #[]) ∧ u' = .returning ∧ w' = w := by
  refine callsD_of_wpS Tryz.func41 rfl fun c₀ cs hu => ?_
  apply wpS_seq
  apply wpS_region
  simp [wpOpsS, go_sem, recoverD, hu, Tryz.ntmps41, Exit.thenS]
  refine wpS_cond (t := false) (by simp [Act.eval, Array.replicate]) ?_
  simp only [Bool.false_eq_true, if_false]
  refine wpS_of_wp (wp_skip ?_)
  cases c₀
  simp_all [bodyPostS, results, Tryz.results41]

set_option maxRecDepth 20000 in
set_option maxHeartbeats 4000000 in
theorem DecSub_ok (z1 z2 zr e1 e2 er : Int) (p : Nat) (w : World) (hz1 : (wdig z1).length ≤ 300) (hz2 : (wdig z2).length ≤ 300) (he1 : -400 ≤ e1 ∧ e1 ≤ 400) (he2 : -400 ≤ e2 ∧ e2 ≤ 400) (her : -2147483648 ≤ er ∧ er ≤ 2147483647)
    (hp : p ≤ 600) (hzr : zr.natAbs < 10 ^ p) (hNG : NG ≤ w.heap.size)
    (hm : ∀ b1 v1 b2 v2 W, Fresh w W → ZI W b1 v1 z1 → ZI W b2 v2 z2 → Calls Tryz.prog 42 #[sd b1 e1, sd b2 e2] W (fun r w' => ∃ b v, r = .returned (sd b er) ∧ ZI w' b v zr ∧ Fresh W w')) :
    Calls Tryz.prog 16 #[dd z1 e1, dd z2 e2] w (fun r w' => r = .returned (.tuple #[dd zr er, .int .i64 0]) ∧ Fresh w w') := by
  have hmf : ∀ (fn : Fn) (first cap : Array Value) (w : World), (Instr.makeFunc fn first cap).run Tryz.prog w = .ok (.func fn first cap) w := fun _ _ _ _ => rfl
  have hm1 := fun W (hW : Fresh w W) => made_any z1 e1 W hz1 he1 (Nat.le_trans hNG hW.size)
  have hm2 := fun W (hW : Fresh w W) => made_any z2 e2 W hz2 he2 (Nat.le_trans hNG hW.size)
  have hdc := fun b v W (hx : ZI W b v zr) => dec_any b v zr er p W her hx hp hzr
  unfold dd
  generalize bstr (wdig z1) = t1 at *
  generalize bstr (wdig z2) = t2 at *
  generalize bstr (wdig zr) = tr at *
  clear hz1 hz2 he1 he2 her hzr hNG hp
  have H_hm := Lib.hid hm; clear hm
  have H_hm1 := Lib.hid hm1; clear hm1
  have H_hm2 := Lib.hid hm2; clear hm2
  have H_hdc := Lib.hid hdc; clear hdc
  go_enter_defers Tryz.func16, Tryz.ntmps16
  go_wp2_with (fail)
  obtain ⟨g, hg⟩ : ∃ g, g = w.heap.size := ⟨_, rfl⟩
  have bx := boxes4 w #[.string t1, .int .i64 e1] #[.string t2, .int .i64 e2] #[.string ⟨#[]⟩, .int .i64 0] #[.int .i64 0] 23 23 23 3 g hg
  have H_bx := Lib.hid bx; clear bx
  generalize hw1 : (((w.alloc _).alloc _).alloc _).alloc _ = w1
  rw [← hg]
  obtain ⟨d1, d2, d3, d4, fa⟩ := H_bx.out w1 hw1
  have H_d1 := Lib.hid d1; clear d1
  have H_d2 := Lib.hid d2; clear d2
  have H_d3 := Lib.hid d3; clear d3
  have H_d4 := Lib.hid d4; clear d4
  have H_fa := Lib.hid fa; clear fa
  have H_hw1 := Lib.hid hw1; clear hw1
  have H_hg := Lib.hid hg; clear hg
  refine (H_hm1.out _ H_fa.out).mono ?_
  rintro e w2 ⟨b1, v1, rfl, y1, -, -, f2⟩
  have d1 := row_fresh H_d1.out f2
  have d2 := row_fresh H_d2.out f2
  have d3 := row_fresh H_d3.out f2
  have d4 := row_fresh H_d4.out f2
  have fa := fresh_trans H_fa.out f2
  obtain ⟨h1, hh1⟩ : ∃ h, h = w2.heap.size := ⟨_, rfl⟩
  have ak0 := row_cell d2 0
  have ak1 := row_cell d2 1
  simp at ak0 ak1
  have a0 := fun o => cell_fresh ak0 ((Keep.refl (fun _ => False) w2).alloc o)
  have a1 := fun o => cell_fresh ak1 ((Keep.refl (fun _ => False) w2).alloc o)
  clear ak0 ak1
  clear H_d1 H_d2 H_d3 H_d4 H_fa
  have H_d1 := Lib.hid d1; clear d1
  have H_d2 := Lib.hid d2; clear d2
  have H_d3 := Lib.hid d3; clear d3
  have H_d4 := Lib.hid d4; clear d4
  have H_fa := Lib.hid fa; clear fa
  have H_f2 := Lib.hid f2; clear f2
  have H_hh1 := Lib.hid hh1; clear hh1
  have H_y1 := Lib.hid y1; clear y1
  go_wp2_with (fail)
  generalize hw3 : w2.alloc _ = w3
  have f3 : Fresh w2 w3 := by rw [← hw3]; exact (Keep.refl _ _).alloc _
  have r1 : w3.heap[h1]? = some (.cells #[.pointer (some ⟨b1, 0, none⟩), .int .i32 e1] 49 (0, 0)) := by rw [← hw3, H_hh1.out]; exact heap_alloc_new w2 _
  rw [← H_hh1.out]
  have d1 := row_fresh H_d1.out f3
  have d2 := row_fresh H_d2.out f3
  have d3 := row_fresh H_d3.out f3
  have d4 := row_fresh H_d4.out f3
  have y1 := H_y1.out.fresh f3
  have fa := fresh_trans H_fa.out f3
  clear a0 a1
  clear H_d1 H_d2 H_d3 H_d4 H_fa H_y1
  have H_d1 := Lib.hid d1; clear d1
  have H_d2 := Lib.hid d2; clear d2
  have H_d3 := Lib.hid d3; clear d3
  have H_d4 := Lib.hid d4; clear d4
  have H_r1 := Lib.hid r1; clear r1
  have H_fa := Lib.hid fa; clear fa
  have H_f3 := Lib.hid f3; clear f3
  have H_hw3 := Lib.hid hw3; clear hw3
  have H_y1 := Lib.hid y1; clear y1
  refine (H_hm2.out _ H_fa.out).mono ?_
  rintro e w4 ⟨b2, v2, rfl, y2, -, -, f4⟩
  have d1 := row_fresh H_d1.out f4
  have d2 := row_fresh H_d2.out f4
  have d3 := row_fresh H_d3.out f4
  have d4 := row_fresh H_d4.out f4
  have r1 := row_fresh H_r1.out f4
  have y1 := H_y1.out.fresh f4
  have fa := fresh_trans H_fa.out f4
  obtain ⟨h2, hh2⟩ : ∃ h, h = w4.heap.size := ⟨_, rfl⟩
  have ak0 := row_cell r1 0
  have ak1 := row_cell r1 1
  simp at ak0 ak1
  have a0 := fun o => cell_fresh ak0 ((Keep.refl (fun _ => False) w4).alloc o)
  have a1 := fun o => cell_fresh ak1 ((Keep.refl (fun _ => False) w4).alloc o)
  clear ak0 ak1
  clear H_d1 H_d2 H_d3 H_d4 H_r1 H_fa H_y1
  have H_d1 := Lib.hid d1; clear d1
  have H_d2 := Lib.hid d2; clear d2
  have H_d3 := Lib.hid d3; clear d3
  have H_d4 := Lib.hid d4; clear d4
  have H_r1 := Lib.hid r1; clear r1
  have H_fa := Lib.hid fa; clear fa
  have H_f4 := Lib.hid f4; clear f4
  have H_hh2 := Lib.hid hh2; clear hh2
  have H_y1 := Lib.hid y1; clear y1
  have H_y2 := Lib.hid y2; clear y2
  go_wp2_with (fail)
  generalize hw5 : w4.alloc _ = w5
  have f5 : Fresh w4 w5 := by rw [← hw5]; exact (Keep.refl _ _).alloc _
  rw [← H_hh2.out]
  have d1 := row_fresh H_d1.out f5
  have d2 := row_fresh H_d2.out f5
  have d3 := row_fresh H_d3.out f5
  have d4 := row_fresh H_d4.out f5
  have y1 := H_y1.out.fresh f5
  have y2 := H_y2.out.fresh f5
  have fa := fresh_trans H_fa.out f5
  clear a0 a1
  clear H_d1 H_d2 H_d3 H_d4 H_r1 H_fa H_y1 H_y2
  have H_d1 := Lib.hid d1; clear d1
  have H_d2 := Lib.hid d2; clear d2
  have H_d3 := Lib.hid d3; clear d3
  have H_d4 := Lib.hid d4; clear d4
  have H_fa := Lib.hid fa; clear fa
  have H_f5 := Lib.hid f5; clear f5
  have H_hw5 := Lib.hid hw5; clear hw5
  have H_y1 := Lib.hid y1; clear y1
  have H_y2 := Lib.hid y2; clear y2
  refine (H_hm.out _ _ _ _ _ H_fa.out H_y1.out H_y2.out).mono ?_
  rintro e w6 ⟨b, v, rfl, y, f6⟩
  have d1 := row_fresh H_d1.out f6
  have d2 := row_fresh H_d2.out f6
  have d3 := row_fresh H_d3.out f6
  have d4 := row_fresh H_d4.out f6
  have fa := fresh_trans H_fa.out f6
  clear H_d1 H_d2 H_d3 H_d4 H_fa
  have H_d1 := Lib.hid d1; clear d1
  have H_d2 := Lib.hid d2; clear d2
  have H_d3 := Lib.hid d3; clear d3
  have H_d4 := Lib.hid d4; clear d4
  have H_fa := Lib.hid fa; clear fa
  have H_f6 := Lib.hid f6; clear f6
  have H_y := Lib.hid y; clear y
  go_wp2_with (fail)
  refine (H_hdc.out _ _ _ H_y.out).mono ?_
  rintro e w8 ⟨rfl, f8⟩
  have d1 := row_fresh H_d1.out f8
  have d2 := row_fresh H_d2.out f8
  have d3 := row_fresh H_d3.out f8
  have d4 := row_fresh H_d4.out f8
  have fa := fresh_trans H_fa.out f8
  have p0 := row_cell d3 0
  have p1 := row_cell d3 1
  have p3 := row_cell d4 0
  simp at p0 p1 p3
  have q0 : w8.frozen? ⟨g + 1 + 1, 0, none⟩ = false := frozen_of_row _ _ _ _ _ d3
  have q1 : w8.frozen? ⟨g + 1 + 1, 1, none⟩ = false := frozen_of_row _ _ _ _ _ d3
  have q3 : w8.frozen? ⟨g + 1 + 1 + 1, 0, none⟩ = false := frozen_of_row _ _ _ _ _ d4
  clear H_d1 H_d2 H_d3 H_d4 H_fa
  have H_d1 := Lib.hid d1; clear d1
  have H_d2 := Lib.hid d2; clear d2
  have H_d3 := Lib.hid d3; clear d3
  have H_d4 := Lib.hid d4; clear d4
  have H_fa := Lib.hid fa; clear fa
  have H_f8 := Lib.hid f8; clear f8
  go_wp2_with (fail)
  refine leaves_cons (f := 41) (args := #[.pointer (some ⟨g + 1 + 1, 0, none⟩), .pointer (some ⟨g + 1 + 1 + 1, 0, none⟩)]) (by simp) (by simp [go_sem]) ?_
  refine (DecSub1_idle _ _ _).mono ?_
  rintro e u' w'' ⟨rfl, rfl, rfl⟩
  refine ⟨.tuple #[.agg #[.string tr, .int .i64 er], .int .i64 0], results_cell_cell rfl _ _ (g + 1 + 1) 23 #[.string tr, .int .i64 er] (0, 0) _ (g + 1 + 1 + 1) _ rfl rfl ?_ Tryz.underlying23 rfl (by kernel_rfl) ?_, ?_⟩
  · rw [row_far (by omega)]; exact row_set (row_set H_d3.out)
  · have hcell : (((w8.setCell ⟨g + 1 + 1, 0, none⟩ (.string tr)).setCell ⟨g + 1 + 1, 1, none⟩ (.int .i64 er)).setCell ⟨g + 1 + 1 + 1, 0, none⟩ (.int .i64 0)).cell? ⟨g + 1 + 1 + 1, 0, none⟩ = some (.int .i64 0) :=
      cell?_setCell_eq rfl (by rw [far2 (by omega) p3]; rfl)
    simp [loadVar, go_sem, hcell]
  · have hgw := H_hg.out
    exact ⟨rfl, ((H_fa.out.setCell (p := ⟨g + 1 + 1, 0, none⟩) (fun h => by change g + 1 + 1 < w.heap.size at h; omega) _).setCell (p := ⟨g + 1 + 1, 1, none⟩) (fun h => by change g + 1 + 1 < w.heap.size at h; omega) _).setCell (p := ⟨g + 1 + 1 + 1, 0, none⟩) (fun h => by change g + 1 + 1 + 1 < w.heap.size at h; omega) _⟩

end Go.Proofs.YtjjolcjeiogdmaaGreatDoor

/- The number of a sum of decimals, as a fraction. -/
namespace Go.Proofs.YtjjolcjeiogdmaaGreatDoor
open Go.RowKit

theorem dscale {z e m : Int} (h : m ≤ e) : dnum (z * ((10 ^ (e - m).toNat : Nat) : Int)) m * (dden e : Int) = dnum z e * (dden m : Int) := by
  unfold dnum dden
  by_cases h1 : 0 ≤ m
  · have h2 : 0 ≤ e := by omega
    rw [if_pos h1, if_pos h2, if_pos h1, if_pos h2, show ((1 : Nat) : Int) = 1 by rfl, Int.mul_one, Int.mul_one, Int.mul_assoc, ← Int.natCast_mul, ← Nat.pow_add, show (e - m).toNat + m.toNat = e.toNat by omega]
  · by_cases h2 : 0 ≤ e
    · rw [if_neg h1, if_pos h2, if_neg h1, if_pos h2, Int.mul_assoc, Int.mul_assoc, ← Int.natCast_mul, ← Int.natCast_mul, ← Nat.pow_add, Nat.mul_one, show e.toNat + (-m).toNat = (e - m).toNat by omega]
    · rw [if_neg h1, if_neg h2, if_neg h1, if_neg h2, Int.mul_assoc, ← Int.natCast_mul, ← Nat.pow_add, show (e - m).toNat + (-e).toNat = (-m).toNat by omega]

theorem dnum_add (a b m : Int) : dnum (a + b) m = dnum a m + dnum b m := by
  unfold dnum; split
  · rw [Int.add_mul]
  · rfl

theorem dnum_neg (a m : Int) : dnum (-a) m = -dnum a m := by
  unfold dnum; split
  · rw [Int.neg_mul]
  · rfl

theorem dsum_frac {z1 z2 e1 e2 m : Int} (h1 : m ≤ e1) (h2 : m ≤ e2) :
    dnum (z1 * ((10 ^ (e1 - m).toNat : Nat) : Int) + z2 * ((10 ^ (e2 - m).toNat : Nat) : Int)) m * ((dden e1 * dden e2 : Nat) : Int) = (dnum z1 e1 * (dden e2 : Int) + dnum z2 e2 * (dden e1 : Int)) * (dden m : Int) := by
  have a := dscale (z := z1) h1
  have b := dscale (z := z2) h2
  rw [dnum_add]
  generalize dnum (z1 * _) m = A at *
  generalize dnum (z2 * _) m = B at *
  generalize dnum z1 e1 = n1 at *
  generalize dnum z2 e2 = n2 at *
  rw [Int.natCast_mul]
  generalize (dden e1 : Int) = d1 at *
  generalize (dden e2 : Int) = d2 at *
  generalize (dden m : Int) = D at *
  rw [Int.add_mul, Int.add_mul, show A * (d1 * d2) = (A * d1) * d2 by ac_rfl, show B * (d1 * d2) = (B * d2) * d1 by ac_rfl, a, b]
  rw [show n1 * D * d2 = n1 * d2 * D by ac_rfl, show n2 * D * d1 = n2 * d1 * D by ac_rfl]

theorem dsub_frac {z1 z2 e1 e2 m : Int} (h1 : m ≤ e1) (h2 : m ≤ e2) :
    dnum (z1 * ((10 ^ (e1 - m).toNat : Nat) : Int) - z2 * ((10 ^ (e2 - m).toNat : Nat) : Int)) m * ((dden e1 * dden e2 : Nat) : Int) = (dnum z1 e1 * (dden e2 : Int) + -dnum z2 e2 * (dden e1 : Int)) * (dden m : Int) := by
  have := dsum_frac (z1 := z1) (z2 := -z2) h1 h2
  rw [dnum_neg, Int.neg_mul] at this
  exact this

theorem dnum_lt {z e : Int} {p : Nat} (h : z.natAbs < 10 ^ p) (he : e ≤ 60) : (dnum z e).natAbs < 10 ^ (p + 60) := by
  unfold dnum; split
  · rw [Int.natAbs_mul, Int.natAbs_natCast, Nat.pow_add]
    exact Nat.mul_lt_mul_of_lt_of_le h (Nat.pow_le_pow_right (by omega) (by omega)) (Nat.pow_pos (by omega))
  · exact Nat.lt_of_lt_of_le h (Nat.pow_le_pow_right (by omega) (by omega))

theorem dden_le {e : Int} (he : -60 ≤ e) : dden e ≤ 10 ^ 60 := by
  unfold dden; split
  · decide
  · exact Nat.pow_le_pow_right (by omega) (by omega)

theorem spow_of_ten {n p k : Nat} (h : n < 10 ^ p) (hp : p ≤ 9 * k) : n < spow k := by
  rw [spow_ten]; exact Nat.lt_of_lt_of_le h (Nat.pow_le_pow_right (by omega) hp)

theorem dscaled_lt {z e m : Int} (h : z.natAbs < 10 ^ 60) (hd : e - m ≤ 120) : (z * ((10 ^ (e - m).toNat : Nat) : Int)).natAbs < 10 ^ 180 := by
  rw [Int.natAbs_mul, Int.natAbs_natCast, show 180 = 60 + 120 by rfl, Nat.pow_add]
  exact Nat.mul_lt_mul_of_lt_of_le h (Nat.pow_le_pow_right (by omega) (by omega)) (Nat.pow_pos (by omega))

theorem dadd_lt {a b : Int} (h1 : a.natAbs < 10 ^ 180) (h2 : b.natAbs < 10 ^ 180) : (a + b).natAbs < 10 ^ 181 := by
  have e : (10 : Nat) ^ 181 = 10 * 10 ^ 180 := by rw [Nat.pow_succ, Nat.mul_comm]
  rw [e]
  generalize (10 : Nat) ^ 180 = K at *
  omega

theorem dsub_lt {a b : Int} (h1 : a.natAbs < 10 ^ 180) (h2 : b.natAbs < 10 ^ 180) : (a - b).natAbs < 10 ^ 181 := by
  have e : (10 : Nat) ^ 181 = 10 * 10 ^ 180 := by rw [Nat.pow_succ, Nat.mul_comm]
  rw [e]
  generalize (10 : Nat) ^ 180 = K at *
  omega

/-- what a sum of fractions is bounded by -/
theorem fsum_lt {n1 n2 : Int} {d1 d2 : Nat} (h1 : n1.natAbs < 10 ^ 120) (h2 : n2.natAbs < 10 ^ 120) (k1 : d1 ≤ 10 ^ 60) (k2 : d2 ≤ 10 ^ 60) : (n1 * (d2 : Int) + n2 * (d1 : Int)).natAbs < 10 ^ 181 := by
  have e0 : (10 : Nat) ^ 180 = 10 ^ 120 * 10 ^ 60 := by rw [← Nat.pow_add]
  refine dadd_lt ?_ ?_
  · rw [Int.natAbs_mul, Int.natAbs_natCast, e0]
    exact Nat.mul_lt_mul_of_lt_of_le h1 k2 (Nat.pow_pos (by omega))
  · rw [Int.natAbs_mul, Int.natAbs_natCast, e0]
    exact Nat.mul_lt_mul_of_lt_of_le h2 k1 (Nat.pow_pos (by omega))

theorem fden_lt {d1 d2 : Nat} (k1 : d1 ≤ 10 ^ 60) (k2 : d2 ≤ 10 ^ 60) : d1 * d2 < 10 ^ 121 := by
  have e0 : (10 : Nat) ^ 120 = 10 ^ 60 * 10 ^ 60 := by rw [← Nat.pow_add]
  have e1 : (10 : Nat) ^ 120 < 10 ^ 121 := Nat.pow_lt_pow_right (by omega) (by omega)
  refine Nat.lt_of_le_of_lt ?_ e1
  rw [e0]
  exact Nat.mul_le_mul k1 k2

end Go.Proofs.YtjjolcjeiogdmaaGreatDoor

/- shopspring: Decimal.Add and Decimal.Sub: the three ways joined. Printed by gen_dj.py. -/
namespace Go.Proofs.YtjjolcjeiogdmaaGreatDoor
open Go.RowKit

theorem DecAdd_any (b1 b2 : Nat) (v1 v2 : Value) (z1 z2 e1 e2 m : Int) (w : World) (hG : Glob w) (hz1 : z1.natAbs < wpow 7) (hz2 : z2.natAbs < wpow 7) (hx : ZI w b1 v1 z1) (hy : ZI w b2 v2 z2)
    (he1 : -60 ≤ e1 ∧ e1 ≤ 60) (he2 : -60 ≤ e2 ∧ e2 ≤ 60) (hm : m = min e1 e2) :
    Calls Tryz.prog 38 #[sd b1 e1, sd b2 e2] w (fun r w' => ∃ b v, r = .returned (sd b m) ∧ ZI w' b v (z1 * ((10 ^ (e1 - m).toNat : Nat) : Int) + z2 * ((10 ^ (e2 - m).toNat : Nat) : Int)) ∧ Fresh w w') := by
  have e0 : ∀ (z e : Int), z * ((10 ^ (e - e).toNat : Nat) : Int) = z := fun z e => by
    rw [Int.sub_self]; exact Int.mul_one z
  rcases Int.lt_trichotomy e1 e2 with h | h | h
  · obtain rfl : m = e1 := by omega
    rw [e0]
    exact (DecAdd_lt b1 b2 v1 v2 z1 z2 m e2 w hG hz1 hz2 hx hy (by omega) (by omega) h (by omega)).mono fun r w' ⟨b, v, h1, h2, _, _, h3⟩ => ⟨b, v, h1, h2, h3⟩
  · subst h
    obtain rfl : m = e1 := by omega
    rw [e0, e0]
    exact (DecAdd_eq b1 b2 v1 v2 z1 z2 m w hG hz1 hz2 hx hy).mono fun r w' ⟨b, v, h1, h2, _, _, h3⟩ => ⟨b, v, h1, h2, h3⟩
  · obtain rfl : m = e2 := by omega
    rw [e0]
    exact (DecAdd_gt b1 b2 v1 v2 z1 z2 e1 m w hG hz1 hz2 hx hy (by omega) (by omega) h (by omega)).mono fun r w' ⟨b, v, h1, h2, _, _, h3⟩ => ⟨b, v, h1, h2, h3⟩

theorem DecSub_any (b1 b2 : Nat) (v1 v2 : Value) (z1 z2 e1 e2 m : Int) (w : World) (hG : Glob w) (hz1 : z1.natAbs < wpow 7) (hz2 : z2.natAbs < wpow 7) (hx : ZI w b1 v1 z1) (hy : ZI w b2 v2 z2)
    (he1 : -60 ≤ e1 ∧ e1 ≤ 60) (he2 : -60 ≤ e2 ∧ e2 ≤ 60) (hm : m = min e1 e2) :
    Calls Tryz.prog 42 #[sd b1 e1, sd b2 e2] w (fun r w' => ∃ b v, r = .returned (sd b m) ∧ ZI w' b v (z1 * ((10 ^ (e1 - m).toNat : Nat) : Int) - z2 * ((10 ^ (e2 - m).toNat : Nat) : Int)) ∧ Fresh w w') := by
  have e0 : ∀ (z e : Int), z * ((10 ^ (e - e).toNat : Nat) : Int) = z := fun z e => by
    rw [Int.sub_self]; exact Int.mul_one z
  rcases Int.lt_trichotomy e1 e2 with h | h | h
  · obtain rfl : m = e1 := by omega
    rw [e0]
    exact (DecSub_lt b1 b2 v1 v2 z1 z2 m e2 w hG hz1 hz2 hx hy (by omega) (by omega) h (by omega)).mono fun r w' ⟨b, v, h1, h2, _, _, h3⟩ => ⟨b, v, h1, h2, h3⟩
  · subst h
    obtain rfl : m = e1 := by omega
    rw [e0, e0]
    exact (DecSub_eq b1 b2 v1 v2 z1 z2 m w hG hz1 hz2 hx hy).mono fun r w' ⟨b, v, h1, h2, _, _, h3⟩ => ⟨b, v, h1, h2, h3⟩
  · obtain rfl : m = e2 := by omega
    rw [e0]
    exact (DecSub_gt b1 b2 v1 v2 z1 z2 e1 m w hG hz1 hz2 hx hy (by omega) (by omega) h (by omega)).mono fun r w' ⟨b, v, h1, h2, _, _, h3⟩ => ⟨b, v, h1, h2, h3⟩

end Go.Proofs.YtjjolcjeiogdmaaGreatDoor

/- impl.DecAdd and impl.DecSub, of two decimals of at most 60 digits. Printed by hand. -/
namespace Go.Proofs.YtjjolcjeiogdmaaGreatDoor
open Go.RowKit

theorem wpow7_of {z : Int} (h : z.natAbs < 10 ^ 60) : z.natAbs < wpow 7 := Nat.lt_of_lt_of_le h (by unfold wpow; decide)

theorem DecAdd_fit (z1 z2 e1 e2 m : Int) (w : World) (hG : Glob w) (hz1 : z1.natAbs < 10 ^ 60) (hz2 : z2.natAbs < 10 ^ 60) (he1 : -60 ≤ e1 ∧ e1 ≤ 60) (he2 : -60 ≤ e2 ∧ e2 ≤ 60) (hm : m = min e1 e2) :
    Calls Tryz.prog 14 #[dd z1 e1, dd z2 e2] w (fun r w' => r = .returned (.tuple #[dd (z1 * ((10 ^ (e1 - m).toNat : Nat) : Int) + z2 * ((10 ^ (e2 - m).toNat : Nat) : Int)) m, .int .i64 0]) ∧ Fresh w w') :=
  DecAdd_ok z1 z2 _ e1 e2 m 181 w (Nat.le_trans (wdig_len_le hz1 (by omega)) (by omega)) (Nat.le_trans (wdig_len_le hz2 (by omega)) (by omega)) (by omega) (by omega) (by omega) (by omega)
    (dadd_lt (dscaled_lt hz1 (by omega)) (dscaled_lt hz2 (by omega))) hG.1
    (fun b1 v1 b2 v2 W hW hx hy => DecAdd_any b1 b2 v1 v2 z1 z2 e1 e2 m W (hG.fresh hW) (wpow7_of hz1) (wpow7_of hz2) hx hy he1 he2 hm)

theorem DecSub_fit (z1 z2 e1 e2 m : Int) (w : World) (hG : Glob w) (hz1 : z1.natAbs < 10 ^ 60) (hz2 : z2.natAbs < 10 ^ 60) (he1 : -60 ≤ e1 ∧ e1 ≤ 60) (he2 : -60 ≤ e2 ∧ e2 ≤ 60) (hm : m = min e1 e2) :
    Calls Tryz.prog 16 #[dd z1 e1, dd z2 e2] w (fun r w' => r = .returned (.tuple #[dd (z1 * ((10 ^ (e1 - m).toNat : Nat) : Int) - z2 * ((10 ^ (e2 - m).toNat : Nat) : Int)) m, .int .i64 0]) ∧ Fresh w w') :=
  DecSub_ok z1 z2 _ e1 e2 m 181 w (Nat.le_trans (wdig_len_le hz1 (by omega)) (by omega)) (Nat.le_trans (wdig_len_le hz2 (by omega)) (by omega)) (by omega) (by omega) (by omega) (by omega)
    (dsub_lt (dscaled_lt hz1 (by omega)) (dscaled_lt hz2 (by omega))) hG.1
    (fun b1 v1 b2 v2 W hW hx hy => DecSub_any b1 b2 v1 v2 z1 z2 e1 e2 m W (hG.fresh hW) (wpow7_of hz1) (wpow7_of hz2) hx hy he1 he2 hm)

end Go.Proofs.YtjjolcjeiogdmaaGreatDoor

/- The contracts of the reference: natShort, Trim. -/
namespace Go.Proofs.YtjjolcjeiogdmaaGreatDoor
open Go.RowKit

end Go.Proofs.YtjjolcjeiogdmaaGreatDoor

/- The plain laws of sums, differences and quotients of numbers of limbs. -/
namespace Go.Proofs.YtjjolcjeiogdmaaGreatDoor
open Go.RowKit

/-- a number without limbs of 0 at its end is one by its value -/
theorem norm_of_ge {l : List Nat} (hl : Lim l) (h : ∀ k, l.length = k + 1 → spow k ≤ sval l) : Norm l := by
  intro k hk h0
  have h1 := sval_take_succ (l := l) (k := k) (by omega)
  rw [← hk, List.take_length, h0] at h1
  have h2 := sval_lt (hl.take k)
  rw [List.length_take, Nat.min_eq_left (by omega)] at h2
  have := h k hk
  omega

theorem sval_take_succ' (l : List Nat) (k : Nat) : sval (l.take (k + 1)) = sval (l.take k) + spow k * l.getD k 0 := by
  by_cases h : k < l.length
  · exact sval_take_succ h
  · rw [List.take_of_length_le (by omega), List.take_of_length_le (by omega)]
    simp [List.getD, List.getElem?_eq_none (Nat.le_of_not_lt h)]

/-- one step of a sum -/
theorem add_step {O S c X Y x y t : Nat} (h : O + S * c = X + Y) (ht : t = c + x + y) :
    (O + S * (t % 1000000000)) + 1000000000 * S * (t / 1000000000) = (X + S * x) + (Y + S * y) := by
  have h1 := Nat.div_add_mod t 1000000000
  generalize t / 1000000000 = d at *
  generalize t % 1000000000 = m at *
  have : S * (1000000000 * d + m) = S * (c + x + y) := by rw [h1, ht]
  grind

/-- one step of a difference: nothing is borrowed -/
theorem sub_step0 {O S b X Y x y : Nat} (h : X + S * b = O + Y) (hy : b + y ≤ x) : (X + S * x) + 1000000000 * S * 0 = (O + S * (x - (b + y))) + (Y + S * y) := by
  have : S * x = S * (x - (b + y)) + S * (b + y) := by rw [← Nat.mul_add]; congr 1; omega
  rw [this, Nat.mul_add]
  omega

/-- one step of a difference: one is borrowed -/
theorem sub_step1 {O S b X Y x y : Nat} (h : X + S * b = O + Y) (hy : b + y ≤ x + 1000000000) : (X + S * x) + 1000000000 * S * 1 = (O + S * (x + 1000000000 - (b + y))) + (Y + S * y) := by
  have h1 : S * (x + 1000000000) = S * (x + 1000000000 - (b + y)) + S * (b + y) := by rw [← Nat.mul_add]; congr 1; omega
  have h2 : 1000000000 * S * 1 = S * 1000000000 := by rw [Nat.mul_one, Nat.mul_comm]
  rw [h2]
  rw [Nat.mul_add, Nat.mul_add] at h1
  omega

end Go.Proofs.YtjjolcjeiogdmaaGreatDoor

/- The contracts of the reference's natural numbers: NatAdd. -/
namespace Go.Proofs.YtjjolcjeiogdmaaGreatDoor
open Go.RowKit

theorem getD_out {l : List Nat} {k : Nat} (h : l.length ≤ k) : l.getD k 0 = 0 := by simp [List.getD, List.getElem?_eq_none h]

set_option maxRecDepth 20000 in
set_option maxHeartbeats 4000000 in
theorem NatAdd_any (xv yv : Value) (xs ys : List Nat) (w : World) (hx : SNat w xv xs) (hy : SNat w yv ys) (hnx : Norm xs) (hny : Norm ys) (hlx : xs.length ≤ 100000) (hly : ys.length ≤ 100000) :
    Calls Tryz.prog 64 #[xv, yv] w (SRet w (sval xs + sval ys)) := by
  obtain ⟨i0, hi, hz0, hz1, hz2⟩ := info_parts info_u32
  obtain ⟨ax, cx, rfl⟩ := hx.form
  obtain ⟨ay, cy, rfl⟩ := hy.form
  obtain ⟨n, hn⟩ : ∃ n, n = xs.length := ⟨_, rfl⟩
  obtain ⟨m, hmm⟩ : ∃ m, m = ys.length := ⟨_, rfl⟩
  obtain ⟨M, hM⟩ : ∃ M, M = max n m := ⟨_, rfl⟩
  have hM1 : n ≤ M := by omega
  have hM2 : m ≤ M := by omega
  have hM3 : M ≤ 100000 := by omega
  rw [← hn] at hlx hx ⊢
  rw [← hmm] at hly hy ⊢
  have hend : ∀ k L, Lim L → L.length = k → sval L = sval xs + sval ys → (M < k → spow (k - 1) ≤ sval xs + sval ys) → M ≤ k → Norm L := fun k L hl hk hv hb hMk => norm_of_ge hl (fun j hj => by
    rw [hv]
    rcases Nat.lt_or_ge M k with h | h
    · have := hb h
      rwa [show k - 1 = j by omega] at this
    · have hkM : k = M := by omega
      rcases Nat.lt_or_ge n m with h2 | h2
      · have := hny.s_ge (k := j) (by omega)
        omega
      · have := hnx.s_ge (k := j) (by omega)
        omega)
  have H_hx := Lib.hid hx; clear hx
  have H_hy := Lib.hid hy; clear hy
  have H_hn := Lib.hid hn; clear hn
  have H_hmm := Lib.hid hmm; clear hmm
  have H_hM := Lib.hid hM; clear hM
  have H_hend := Lib.hid hend; clear hend
  have H_hnx := Lib.hid hnx; clear hnx
  have H_hny := Lib.hid hny; clear hny
  go_enter Tryz.func64, Tryz.ntmps64
  go_wp2_with (fail)
  go_loopw [5, 6, 7] (fun o b i wr => ∃ (k c : Nat) (L : List Nat), k ≤ M + 1 ∧ i = .int .i64 k ∧ b = .int .u32 c ∧ c ≤ 1 ∧ (k = M + 1 → c = 0) ∧ wr.ownsRow w.heap.size 91 1 o L.length (L.map (wd .u32)) ∧ Hid (Lim L) ∧ Hid (L.length = k) ∧ Hid (sval L + spow k * c = sval (xs.take k) + sval (ys.take k)) ∧ Hid (M < k → spow (k - 1) ≤ sval xs + sval ys) ∧ Hid (Fresh w wr)) (fun _ _ i _ => M + 2 - (intOf i).toNat)
  case atStart => exact ⟨0, 0, [], by omega, rfl, rfl, by omega, fun _ => rfl, World.ownsRow_nil _ _ _ _, Lim.nil, Lib.hid rfl, Lib.hid (by simp [sval]), Lib.hid (fun h => by omega), Keep.refl _ _⟩
  case round =>
    obtain ⟨k, c, L, hk, rfl, rfl, hc, hcM, hown, hlim, hLl, hval, hbig, hfr⟩ := hrel
    have H_hown := Lib.hid hown
    clear hown
    have hsz := hfr.out.size
    have hLk := hLl.out
    have hxlim := H_hx.out.lim.getD k
    have hylim := H_hy.out.lim.getD k
    obtain ⟨x, hxx⟩ : ∃ x, x = xs.getD k 0 := ⟨_, rfl⟩
    obtain ⟨y, hyy⟩ : ∃ y, y = ys.getD k 0 := ⟨_, rfl⟩
    obtain ⟨d, hd⟩ : ∃ d, d = c + x := ⟨_, rfl⟩
    obtain ⟨t, ht⟩ : ∃ t, t = d + y := ⟨_, rfl⟩
    rw [← hxx] at hxlim
    rw [← hyy] at hylim
    have hstep : sval (L ++ [t % 1000000000]) + spow (k + 1) * (t / 1000000000) = sval (xs.take (k + 1)) + sval (ys.take (k + 1)) := by
      have := add_step (x := x) (y := y) (t := t) hval.out (by omega)
      rw [sval_take_succ' xs k, sval_take_succ' ys k, spow_succ, sval_append, hLk, ← hxx, ← hyy]
      simpa [sval] using this
    have hq9 : t % 1000000000 < 1000000000 := by omega
    have hc9 : t / 1000000000 ≤ 1 := by omega
    have hd9 : d ≤ 1000000000 := by omega
    have ht9 : t ≤ 1999999999 := by omega
    have hdI : (c : Int) + (x : Int) = (d : Int) := by omega
    have htI : (d : Int) + (y : Int) = (t : Int) := by omega
    have hown2 := H_hown.out
    rw [hLk] at hown2
    by_cases hcase : k < n ∧ k < m
    · obtain ⟨hk1, hk2⟩ := hcase
      have hnx2 : M < k + 1 → spow (k + 1 - 1) ≤ sval xs + sval ys := fun h => by
        omega
      obtain ⟨gx, rfl, hcx, hgx, hcellx⟩ := (H_hx.out.fresh hfr.out).cells H_hn.out (by omega)
      have hxk := hcellx k hk1
      rw [← hxx] at hxk
      have t1 : decide ((k : Int) < (n : Int)) = true := by simp; omega
      clear hcellx
      obtain ⟨gy, rfl, hcy, hgy, hcelly⟩ := (H_hy.out.fresh hfr.out).cells H_hmm.out (by omega)
      have hyk := hcelly k hk2
      rw [← hyy] at hyk
      have t2 : decide ((k : Int) < (m : Int)) = true := by simp; omega
      clear hcelly
      have H_ht := Lib.hid ht; clear ht
      have H_hd := Lib.hid hd; clear hd
      have H_hxx := Lib.hid hxx; clear hxx
      have H_hyy := Lib.hid hyy; clear hyy
      have H_hstep := Lib.hid hstep; clear hstep
      have H_hnx2 := Lib.hid hnx2; clear hnx2
      have H_hq9 := Lib.hid hq9; clear hq9
      have H_hc9 := Lib.hid hc9; clear hc9
      clear hval hbig
      go_wp2_with (at_builtin; refine wpList_append_own _ rfl _ _ 26 rfl w.heap.size 91 i0 (.int .u32 0) 1 4 Tryz.underlying26 hi hz0 hz1 hz2 rfl (by decide) _ _ _ rfl (hown2.alloc _) ⟨wr.heap.size, 0, none⟩ 1 1 [wd .u32 (t % 1000000000)] rfl rfl ?c1 ?c2 ?c3 ?c4 ?c5 ?_)
      case c1 =>
        intro j u hj
        match j, hj with
        | 0, hj => simp at hj; subst hj; simp [Addr.add, wd]
      case c2 => intro u hu; simp at hu; subst hu; rfl
      case c3 => unfold maxLen; omega
      case c4 => omega
      case c5 => simp; omega
      · intro v' w1 hown' hgrow _
        have hf1 : Fresh w w1 := Fresh.owns (hfr.out.alloc _) (H_hown.out.alloc _) (Nat.le_refl _) hgrow
        have hL : (L ++ [(t % 1000000000)]).length = L.length + 1 := by simp
        have hown1 : w1.ownsRow w.heap.size 91 1 v' (L ++ [(t % 1000000000)]).length ((L ++ [(t % 1000000000)]).map (wd .u32)) := by
          rw [hL, hLk, List.map_append]; exact hown'
        have H_hown1 := Lib.hid hown1; clear hown1
        have H_hf1 := Lib.hid hf1; clear hf1
        clear hown' hgrow hown2
        go_wp2_with (fail)
        go_roundw
        case rel => exact ⟨k + 1, (t / 1000000000), L ++ [(t % 1000000000)], by omega, by simp, rfl, H_hc9.out, by have := H_hM.out; omega, H_hown1.out, Lib.hid (hlim.out.append (Lim.one H_hq9.out)), Lib.hid (by rw [hL, hLk]), H_hstep, H_hnx2, H_hf1⟩
        case measure => simp [intOf]; omega
    by_cases hcase : k < n ∧ m ≤ k
    · obtain ⟨hk1, hk2⟩ := hcase
      have hnx2 : M < k + 1 → spow (k + 1 - 1) ≤ sval xs + sval ys := fun h => by
        omega
      obtain ⟨gx, rfl, hcx, hgx, hcellx⟩ := (H_hx.out.fresh hfr.out).cells H_hn.out (by omega)
      have hxk := hcellx k hk1
      rw [← hxx] at hxk
      have t1 : decide ((k : Int) < (n : Int)) = true := by simp; omega
      clear hcellx
      have hy0 : y = 0 := by rw [hyy]; exact getD_out (by have := H_hmm.out; omega)
      have t2 : decide ((k : Int) < (m : Int)) = false := by simp; omega
      have t2n : ¬ k < m := by omega
      subst hy0
      have htd : d = t := by omega
      subst htd
      have H_ht := Lib.hid ht; clear ht
      have H_hd := Lib.hid hd; clear hd
      have H_hxx := Lib.hid hxx; clear hxx
      have H_hyy := Lib.hid hyy; clear hyy
      have H_hstep := Lib.hid hstep; clear hstep
      have H_hnx2 := Lib.hid hnx2; clear hnx2
      have H_hq9 := Lib.hid hq9; clear hq9
      have H_hc9 := Lib.hid hc9; clear hc9
      clear hval hbig
      go_wp2_with (at_builtin; refine wpList_append_own _ rfl _ _ 26 rfl w.heap.size 91 i0 (.int .u32 0) 1 4 Tryz.underlying26 hi hz0 hz1 hz2 rfl (by decide) _ _ _ rfl (hown2.alloc _) ⟨wr.heap.size, 0, none⟩ 1 1 [wd .u32 (d % 1000000000)] rfl rfl ?c1 ?c2 ?c3 ?c4 ?c5 ?_)
      case c1 =>
        intro j u hj
        match j, hj with
        | 0, hj => simp at hj; subst hj; simp [Addr.add, wd]
      case c2 => intro u hu; simp at hu; subst hu; rfl
      case c3 => unfold maxLen; omega
      case c4 => omega
      case c5 => simp; omega
      · intro v' w1 hown' hgrow _
        have hf1 : Fresh w w1 := Fresh.owns (hfr.out.alloc _) (H_hown.out.alloc _) (Nat.le_refl _) hgrow
        have hL : (L ++ [(d % 1000000000)]).length = L.length + 1 := by simp
        have hown1 : w1.ownsRow w.heap.size 91 1 v' (L ++ [(d % 1000000000)]).length ((L ++ [(d % 1000000000)]).map (wd .u32)) := by
          rw [hL, hLk, List.map_append]; exact hown'
        have H_hown1 := Lib.hid hown1; clear hown1
        have H_hf1 := Lib.hid hf1; clear hf1
        clear hown' hgrow hown2
        go_wp2_with (fail)
        go_roundw
        case rel => exact ⟨k + 1, (d / 1000000000), L ++ [(d % 1000000000)], by omega, by simp, rfl, H_hc9.out, by have := H_hM.out; omega, H_hown1.out, Lib.hid (hlim.out.append (Lim.one H_hq9.out)), Lib.hid (by rw [hL, hLk]), H_hstep, H_hnx2, H_hf1⟩
        case measure => simp [intOf]; omega
    by_cases hcase : n ≤ k ∧ k < m
    · obtain ⟨hk1, hk2⟩ := hcase
      have hnx2 : M < k + 1 → spow (k + 1 - 1) ≤ sval xs + sval ys := fun h => by
        omega
      have hx0 : x = 0 := by rw [hxx]; exact getD_out (by have := H_hn.out; omega)
      have t1 : decide ((k : Int) < (n : Int)) = false := by simp; omega
      have t1n : ¬ k < n := by omega
      obtain ⟨gy, rfl, hcy, hgy, hcelly⟩ := (H_hy.out.fresh hfr.out).cells H_hmm.out (by omega)
      have hyk := hcelly k hk2
      rw [← hyy] at hyk
      have t2 : decide ((k : Int) < (m : Int)) = true := by simp; omega
      clear hcelly
      subst hx0
      have hdc : c = d := by omega
      subst hdc
      have H_ht := Lib.hid ht; clear ht
      have H_hd := Lib.hid hd; clear hd
      have H_hxx := Lib.hid hxx; clear hxx
      have H_hyy := Lib.hid hyy; clear hyy
      have H_hstep := Lib.hid hstep; clear hstep
      have H_hnx2 := Lib.hid hnx2; clear hnx2
      have H_hq9 := Lib.hid hq9; clear hq9
      have H_hc9 := Lib.hid hc9; clear hc9
      clear hval hbig
      go_wp2_with (at_builtin; refine wpList_append_own _ rfl _ _ 26 rfl w.heap.size 91 i0 (.int .u32 0) 1 4 Tryz.underlying26 hi hz0 hz1 hz2 rfl (by decide) _ _ _ rfl (hown2.alloc _) ⟨wr.heap.size, 0, none⟩ 1 1 [wd .u32 (t % 1000000000)] rfl rfl ?c1 ?c2 ?c3 ?c4 ?c5 ?_)
      case c1 =>
        intro j u hj
        match j, hj with
        | 0, hj => simp at hj; subst hj; simp [Addr.add, wd]
      case c2 => intro u hu; simp at hu; subst hu; rfl
      case c3 => unfold maxLen; omega
      case c4 => omega
      case c5 => simp; omega
      · intro v' w1 hown' hgrow _
        have hf1 : Fresh w w1 := Fresh.owns (hfr.out.alloc _) (H_hown.out.alloc _) (Nat.le_refl _) hgrow
        have hL : (L ++ [(t % 1000000000)]).length = L.length + 1 := by simp
        have hown1 : w1.ownsRow w.heap.size 91 1 v' (L ++ [(t % 1000000000)]).length ((L ++ [(t % 1000000000)]).map (wd .u32)) := by
          rw [hL, hLk, List.map_append]; exact hown'
        have H_hown1 := Lib.hid hown1; clear hown1
        have H_hf1 := Lib.hid hf1; clear hf1
        clear hown' hgrow hown2
        go_wp2_with (fail)
        go_roundw
        case rel => exact ⟨k + 1, (t / 1000000000), L ++ [(t % 1000000000)], by omega, by simp, rfl, H_hc9.out, by have := H_hM.out; omega, H_hown1.out, Lib.hid (hlim.out.append (Lim.one H_hq9.out)), Lib.hid (by rw [hL, hLk]), H_hstep, H_hnx2, H_hf1⟩
        case measure => simp [intOf]; omega
    by_cases hcase : n ≤ k ∧ m ≤ k ∧ c = 1
    · obtain ⟨hk1, hk2, rfl⟩ := hcase
      have hnx2 : M < k + 1 → spow (k + 1 - 1) ≤ sval xs + sval ys := fun h => by
        have h1 := hval.out
        rw [List.take_of_length_le (by have := H_hn.out; omega), List.take_of_length_le (by have := H_hmm.out; omega)] at h1
        rw [Nat.add_sub_cancel]
        omega
      have hx0 : x = 0 := by rw [hxx]; exact getD_out (by have := H_hn.out; omega)
      have t1 : decide ((k : Int) < (n : Int)) = false := by simp; omega
      have t1n : ¬ k < n := by omega
      have hy0 : y = 0 := by rw [hyy]; exact getD_out (by have := H_hmm.out; omega)
      have t2 : decide ((k : Int) < (m : Int)) = false := by simp; omega
      have t2n : ¬ k < m := by omega
      subst hx0
      have hdc : 1 = d := by omega
      subst hdc
      subst hy0
      have htd : 1 = t := by omega
      subst htd
      have H_ht := Lib.hid ht; clear ht
      have H_hd := Lib.hid hd; clear hd
      have H_hxx := Lib.hid hxx; clear hxx
      have H_hyy := Lib.hid hyy; clear hyy
      have H_hstep := Lib.hid hstep; clear hstep
      have H_hnx2 := Lib.hid hnx2; clear hnx2
      have H_hq9 := Lib.hid hq9; clear hq9
      have H_hc9 := Lib.hid hc9; clear hc9
      clear hval hbig
      go_wp2_with (at_builtin; refine wpList_append_own _ rfl _ _ 26 rfl w.heap.size 91 i0 (.int .u32 0) 1 4 Tryz.underlying26 hi hz0 hz1 hz2 rfl (by decide) _ _ _ rfl (hown2.alloc _) ⟨wr.heap.size, 0, none⟩ 1 1 [Value.int .u32 1] rfl rfl ?c1 ?c2 ?c3 ?c4 ?c5 ?_)
      case c2 => rfl
      case c3 => unfold maxLen; omega
      case c4 => omega
      case c5 => first | omega | (simp; omega)
      · intro v' w1 hown' hgrow _
        have hf1 : Fresh w w1 := Fresh.owns (hfr.out.alloc _) (H_hown.out.alloc _) (Nat.le_refl _) hgrow
        have hL : (L ++ [1]).length = L.length + 1 := by simp
        have hown1 : w1.ownsRow w.heap.size 91 1 v' (L ++ [1]).length ((L ++ [1]).map (wd .u32)) := by
          rw [hL, hLk, List.map_append]; exact hown'
        have H_hown1 := Lib.hid hown1; clear hown1
        have H_hf1 := Lib.hid hf1; clear hf1
        clear hown' hgrow hown2
        go_wp2_with (fail)
        go_roundw
        case rel => exact ⟨k + 1, 0, L ++ [1], by omega, by simp, rfl, H_hc9.out, by have := H_hM.out; omega, H_hown1.out, Lib.hid (hlim.out.append (Lim.one H_hq9.out)), Lib.hid (by rw [hL, hLk]), H_hstep, H_hnx2, H_hf1⟩
        case measure => simp [intOf]; omega
    have hex : n ≤ k ∧ m ≤ k ∧ c = 0 := by omega
    obtain ⟨hk1, hk2, rfl⟩ := hex
    have t1 : decide ((k : Int) < (n : Int)) = false := by simp; omega
    have t1n : ¬ k < n := by omega
    have t2 : decide ((k : Int) < (m : Int)) = false := by simp; omega
    have t2n : ¬ k < m := by omega
    have hv : sval L = sval xs + sval ys := by
      have hv := hval.out
      rw [List.take_of_length_le (by have := H_hn.out; omega), List.take_of_length_le (by have := H_hmm.out; omega)] at hv
      omega
    have hnl : Norm L := H_hend.out k L hlim.out hLk hv hbig.out (by have := H_hM.out; omega)
    have hs := SNat.of_owns H_hown.out hlim.out (by omega)
    clear hown2 hstep hval hbig ht hd hq9 hc9 hxx hyy hxlim hylim
    have H_hnl := Lib.hid hnl; clear hnl
    have H_hs := Lib.hid hs; clear hs
    have H_hv := Lib.hid hv; clear hv
    go_wp2_with (fail)
    go_ret
    exact ⟨_, L, rfl, H_hs.out, H_hnl.out, H_hv.out, hfr.out⟩

end Go.Proofs.YtjjolcjeiogdmaaGreatDoor
