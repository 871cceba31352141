/- Five blocks. -/
import Derived.Test.YtjdfapoomjeabaaGreatDoorKX
import Derived.Test.YtjdfapoomjeabaaGreatDoorK5
import Derived.Test.YtjdfapoomjeabaaGreatDoorK10
import Derived.Test.YtjdfapoomjeabaaGreatDoorK12
import Derived.Test.YtjdfapoomjeabaaGreatDoorK15
namespace Go.Proofs.YtjdfapoomjeabaaGreatDoor
open Go.RowKit

theorem boxes5T (w : World) (c1 c2 c3 c4 c5 : Array Value) (T1 T2 T3 T4 T5 : TypeId) : ∀ g, g = w.heap.size → ∀ w1, ((((w.alloc (.cells c1 T1)).alloc (.cells c2 T2)).alloc (.cells c3 T3)).alloc (.cells c4 T4)).alloc (.cells c5 T5) = w1 →
    w1.heap[g]? = some (.cells c1 T1 (0, 0)) ∧ w1.heap[g + 1]? = some (.cells c2 T2 (0, 0)) ∧ w1.heap[g + 1 + 1]? = some (.cells c3 T3 (0, 0)) ∧ w1.heap[g + 1 + 1 + 1]? = some (.cells c4 T4 (0, 0)) ∧ w1.heap[g + 1 + 1 + 1 + 1]? = some (.cells c5 T5 (0, 0)) ∧ Fresh w w1 := by
  intro g hg w1 h1
  obtain ⟨r1, r2, r3, r4, f⟩ := boxes4 w c1 c2 c3 c4 T1 T2 T3 T4 g hg _ rfl
  have sz : ((((w.alloc (.cells c1 T1)).alloc (.cells c2 T2)).alloc (.cells c3 T3)).alloc (.cells c4 T4)).heap.size = g + 1 + 1 + 1 + 1 := by simp [hg]
  generalize (((w.alloc (.cells c1 T1)).alloc (.cells c2 T2)).alloc (.cells c3 T3)).alloc (.cells c4 T4) = W at *
  subst h1
  have f4 : Fresh W (W.alloc (.cells c5 T5)) := (Keep.refl _ _).alloc _
  refine ⟨row_fresh r1 f4, row_fresh r2 f4, row_fresh r3 f4, row_fresh r4 f4, ?_, fresh_trans f f4⟩
  rw [← sz]
  exact heap_alloc_new W _

end Go.Proofs.YtjdfapoomjeabaaGreatDoor

/- The contract of impl.FixSubMul. -/
namespace Go.Proofs.YtjdfapoomjeabaaGreatDoor
open Go.RowKit

theorem FixSubMulX1_idle (p q : Addr) (w : World) :
    CallsD Tryz.prog 58 #[.pointer (some p), .pointer (some q)] .returning w fun e u' w' => e = .returned (.tuple #[]) ∧ u' = .returning ∧ w' = w := by
  refine callsD_of_wpS Tryz.func58 rfl fun c₀ cs hu => ?_
  apply wpS_seq
  apply wpS_region
  simp [wpOpsS, go_sem, recoverD, hu, Tryz.ntmps58, Exit.thenS]
  refine wpS_cond (t := false) (by simp [Act.eval, Array.replicate]) ?_
  simp only [Bool.false_eq_true, if_false]
  refine wpS_of_wp (wp_skip ?_)
  cases c₀
  simp_all [bodyPostS, results, Tryz.results58]

set_option maxRecDepth 20000 in
set_option maxHeartbeats 4000000 in
theorem FixSubMul_ok (n1 n2 n3 nz : Bool) (c1 s1 c2 s2 c3 s3 cz sz : Nat) (w : World) (hs1 : s1 ≤ 19) (hs2 : s2 ≤ 19) (hs3 : s3 ≤ 19) (hc1 : c1 ≤ 9999999999999999999) (hc2 : c2 ≤ 9999999999999999999) (hc3 : c3 ≤ 9999999999999999999) (hsz : sz ≤ 19)
    (hm : ∀ W, Fresh w W → Calls Tryz.prog 59 #[gd (n1 && decide (0 < c1)) s1 c1, gd (n2 && decide (0 < c2)) s2 c2, gd (n3 && decide (0 < c3)) s3 c3] W (VRet W (.tuple #[gd nz sz cz, .nilIface]))) :
    Calls Tryz.prog 28 #[fx n1 c1 s1, fx n2 c2 s2, fx n3 c3 s3] w (VRet w (.tuple #[fx nz cz sz, .int .i64 0])) := by
  have hmf : ∀ (fn : Fn) (first cap : Array Value) (w : World), (Instr.makeFunc fn first cap).run Tryz.prog w = .ok (.func fn first cap) w := fun _ _ _ _ => rfl
  obtain ⟨m1, e1⟩ : ∃ n, n = (n1 && decide (0 < c1)) := ⟨_, rfl⟩
  obtain ⟨m2, e2⟩ : ∃ n, n = (n2 && decide (0 < c2)) := ⟨_, rfl⟩
  obtain ⟨m3, e3⟩ : ∃ n, n = (n3 && decide (0 < c3)) := ⟨_, rfl⟩
  rw [← e1, ← e2, ← e3] at hm
  have H_hm := Lib.hid hm; clear hm
  have H_e1 := Lib.hid e1; clear e1
  have H_e2 := Lib.hid e2; clear e2
  have H_e3 := Lib.hid e3; clear e3
  go_enter_defers Tryz.func28, Tryz.ntmps28
  go_wp2_with (fail)
  obtain ⟨g, hg⟩ : ∃ g, g = w.heap.size := ⟨_, rfl⟩
  have bx := boxes5T w #[.bool n1, .int .u64 c1, .int .i64 s1] #[.bool n2, .int .u64 c2, .int .i64 s2] #[.bool n3, .int .u64 c3, .int .i64 s3] #[.bool false, .int .u64 0, .int .i64 0] #[.int .i64 0] 24 24 24 24 3 g hg
  have H_bx := Lib.hid bx; clear bx
  generalize hw1 : ((((w.alloc _).alloc _).alloc _).alloc _).alloc _ = w1
  rw [← hg]
  obtain ⟨d1, d2, d3, d4, d5, fa⟩ := H_bx.out w1 hw1
  have H_d1 := Lib.hid d1; clear d1
  have H_d2 := Lib.hid d2; clear d2
  have H_d3 := Lib.hid d3; clear d3
  have H_d4 := Lib.hid d4; clear d4
  have H_d5 := Lib.hid d5; clear d5
  have H_fa := Lib.hid fa; clear fa
  have H_hw1 := Lib.hid hw1; clear hw1
  have H_hg := Lib.hid hg; clear hg
  refine (fixed_any n1 s1 c1 _ hs1 hc1).mono ?_
  rintro e w2 ⟨rfl, f2⟩
  rw [← H_e1.out]
  have d1 := row_fresh H_d1.out f2
  have d2 := row_fresh H_d2.out f2
  have d3 := row_fresh H_d3.out f2
  have d4 := row_fresh H_d4.out f2
  have d5 := row_fresh H_d5.out f2
  have fa := fresh_trans H_fa.out f2
  obtain ⟨h1, hh1⟩ : ∃ h, h = w2.heap.size := ⟨_, rfl⟩
  have ak0 := row_cell d2 0
  have ak1 := row_cell d2 1
  have ak2 := row_cell d2 2
  simp at ak0 ak1 ak2
  have a0 := fun o => cell_fresh ak0 ((Keep.refl (fun _ => False) w2).alloc o)
  have a1 := fun o => cell_fresh ak1 ((Keep.refl (fun _ => False) w2).alloc o)
  have a2 := fun o => cell_fresh ak2 ((Keep.refl (fun _ => False) w2).alloc o)
  clear ak0 ak1 ak2
  clear H_d1 H_d2 H_d3 H_d4 H_d5 H_fa
  have H_d1 := Lib.hid d1; clear d1
  have H_d2 := Lib.hid d2; clear d2
  have H_d3 := Lib.hid d3; clear d3
  have H_d4 := Lib.hid d4; clear d4
  have H_d5 := Lib.hid d5; clear d5
  have H_fa := Lib.hid fa; clear fa
  have H_f2 := Lib.hid f2; clear f2
  have H_hh1 := Lib.hid hh1; clear hh1
  go_wp2_with (fail)
  generalize hw3 : w2.alloc _ = w3
  have f3 : Fresh w2 w3 := by rw [← hw3]; exact (Keep.refl _ _).alloc _
  have r1 : w3.heap[h1]? = some (.cells #[.bool m1, .int .i8 s1, .int .u64 c1] 50 (0, 0)) := by rw [← hw3, H_hh1.out]; exact heap_alloc_new w2 _
  rw [← H_hh1.out]
  have d1 := row_fresh H_d1.out f3
  have d2 := row_fresh H_d2.out f3
  have d3 := row_fresh H_d3.out f3
  have d4 := row_fresh H_d4.out f3
  have d5 := row_fresh H_d5.out f3
  have fa := fresh_trans H_fa.out f3
  clear a0 a1 a2
  clear H_d1 H_d2 H_d3 H_d4 H_d5 H_fa
  have H_d1 := Lib.hid d1; clear d1
  have H_d2 := Lib.hid d2; clear d2
  have H_d3 := Lib.hid d3; clear d3
  have H_d4 := Lib.hid d4; clear d4
  have H_d5 := Lib.hid d5; clear d5
  have H_r1 := Lib.hid r1; clear r1
  have H_fa := Lib.hid fa; clear fa
  have H_f3 := Lib.hid f3; clear f3
  have H_hw3 := Lib.hid hw3; clear hw3
  refine (fixed_any n2 s2 c2 _ hs2 hc2).mono ?_
  rintro e w4 ⟨rfl, f4⟩
  rw [← H_e2.out]
  have d1 := row_fresh H_d1.out f4
  have d2 := row_fresh H_d2.out f4
  have d3 := row_fresh H_d3.out f4
  have d4 := row_fresh H_d4.out f4
  have d5 := row_fresh H_d5.out f4
  have r1 := row_fresh H_r1.out f4
  have fa := fresh_trans H_fa.out f4
  obtain ⟨h2, hh2⟩ : ∃ h, h = w4.heap.size := ⟨_, rfl⟩
  have ak0 := row_cell d3 0
  have ak1 := row_cell d3 1
  have ak2 := row_cell d3 2
  simp at ak0 ak1 ak2
  have a0 := fun o => cell_fresh ak0 ((Keep.refl (fun _ => False) w4).alloc o)
  have a1 := fun o => cell_fresh ak1 ((Keep.refl (fun _ => False) w4).alloc o)
  have a2 := fun o => cell_fresh ak2 ((Keep.refl (fun _ => False) w4).alloc o)
  clear ak0 ak1 ak2
  clear H_d1 H_d2 H_d3 H_d4 H_d5 H_r1 H_fa
  have H_d1 := Lib.hid d1; clear d1
  have H_d2 := Lib.hid d2; clear d2
  have H_d3 := Lib.hid d3; clear d3
  have H_d4 := Lib.hid d4; clear d4
  have H_d5 := Lib.hid d5; clear d5
  have H_r1 := Lib.hid r1; clear r1
  have H_fa := Lib.hid fa; clear fa
  have H_f4 := Lib.hid f4; clear f4
  have H_hh2 := Lib.hid hh2; clear hh2
  go_wp2_with (fail)
  generalize hw5 : w4.alloc _ = w5
  have f5 : Fresh w4 w5 := by rw [← hw5]; exact (Keep.refl _ _).alloc _
  have r2 : w5.heap[h2]? = some (.cells #[.bool m2, .int .i8 s2, .int .u64 c2] 50 (0, 0)) := by rw [← hw5, H_hh2.out]; exact heap_alloc_new w4 _
  rw [← H_hh2.out]
  have d1 := row_fresh H_d1.out f5
  have d2 := row_fresh H_d2.out f5
  have d3 := row_fresh H_d3.out f5
  have d4 := row_fresh H_d4.out f5
  have d5 := row_fresh H_d5.out f5
  have r1 := row_fresh H_r1.out f5
  have fa := fresh_trans H_fa.out f5
  clear a0 a1 a2
  clear H_d1 H_d2 H_d3 H_d4 H_d5 H_r1 H_fa
  have H_d1 := Lib.hid d1; clear d1
  have H_d2 := Lib.hid d2; clear d2
  have H_d3 := Lib.hid d3; clear d3
  have H_d4 := Lib.hid d4; clear d4
  have H_d5 := Lib.hid d5; clear d5
  have H_r1 := Lib.hid r1; clear r1
  have H_r2 := Lib.hid r2; clear r2
  have H_fa := Lib.hid fa; clear fa
  have H_f5 := Lib.hid f5; clear f5
  have H_hw5 := Lib.hid hw5; clear hw5
  refine (fixed_any n3 s3 c3 _ hs3 hc3).mono ?_
  rintro e w6 ⟨rfl, f6⟩
  rw [← H_e3.out]
  have d1 := row_fresh H_d1.out f6
  have d2 := row_fresh H_d2.out f6
  have d3 := row_fresh H_d3.out f6
  have d4 := row_fresh H_d4.out f6
  have d5 := row_fresh H_d5.out f6
  have r1 := row_fresh H_r1.out f6
  have r2 := row_fresh H_r2.out f6
  have fa := fresh_trans H_fa.out f6
  obtain ⟨h3, hh3⟩ : ∃ h, h = w6.heap.size := ⟨_, rfl⟩
  have ak0 := row_cell r1 0
  have ak1 := row_cell r1 1
  have ak2 := row_cell r1 2
  simp at ak0 ak1 ak2
  have a0 := fun o => cell_fresh ak0 ((Keep.refl (fun _ => False) w6).alloc o)
  have a1 := fun o => cell_fresh ak1 ((Keep.refl (fun _ => False) w6).alloc o)
  have a2 := fun o => cell_fresh ak2 ((Keep.refl (fun _ => False) w6).alloc o)
  clear ak0 ak1 ak2
  have bk0 := row_cell r2 0
  have bk1 := row_cell r2 1
  have bk2 := row_cell r2 2
  simp at bk0 bk1 bk2
  have b0 := fun o => cell_fresh bk0 ((Keep.refl (fun _ => False) w6).alloc o)
  have b1 := fun o => cell_fresh bk1 ((Keep.refl (fun _ => False) w6).alloc o)
  have b2 := fun o => cell_fresh bk2 ((Keep.refl (fun _ => False) w6).alloc o)
  clear bk0 bk1 bk2
  clear H_d1 H_d2 H_d3 H_d4 H_d5 H_r1 H_r2 H_fa
  have H_d1 := Lib.hid d1; clear d1
  have H_d2 := Lib.hid d2; clear d2
  have H_d3 := Lib.hid d3; clear d3
  have H_d4 := Lib.hid d4; clear d4
  have H_d5 := Lib.hid d5; clear d5
  have H_r1 := Lib.hid r1; clear r1
  have H_r2 := Lib.hid r2; clear r2
  have H_fa := Lib.hid fa; clear fa
  have H_f6 := Lib.hid f6; clear f6
  have H_hh3 := Lib.hid hh3; clear hh3
  go_wp2_with (fail)
  generalize hw7 : w6.alloc _ = w7
  have f7 : Fresh w6 w7 := by rw [← hw7]; exact (Keep.refl _ _).alloc _
  have r3 : w7.heap[h3]? = some (.cells #[.bool m3, .int .i8 s3, .int .u64 c3] 50 (0, 0)) := by rw [← hw7, H_hh3.out]; exact heap_alloc_new w6 _
  rw [← H_hh3.out]
  have d1 := row_fresh H_d1.out f7
  have d2 := row_fresh H_d2.out f7
  have d3 := row_fresh H_d3.out f7
  have d4 := row_fresh H_d4.out f7
  have d5 := row_fresh H_d5.out f7
  have r1 := row_fresh H_r1.out f7
  have r2 := row_fresh H_r2.out f7
  have fa := fresh_trans H_fa.out f7
  clear a0 a1 a2 b0 b1 b2
  clear H_d1 H_d2 H_d3 H_d4 H_d5 H_r1 H_r2 H_fa
  have H_d1 := Lib.hid d1; clear d1
  have H_d2 := Lib.hid d2; clear d2
  have H_d3 := Lib.hid d3; clear d3
  have H_d4 := Lib.hid d4; clear d4
  have H_d5 := Lib.hid d5; clear d5
  have H_r1 := Lib.hid r1; clear r1
  have H_r2 := Lib.hid r2; clear r2
  have H_r3 := Lib.hid r3; clear r3
  have H_fa := Lib.hid fa; clear fa
  have H_f7 := Lib.hid f7; clear f7
  have H_hw7 := Lib.hid hw7; clear hw7
  refine (H_hm.out _ H_fa.out).mono ?_
  rintro e w8 ⟨rfl, f8⟩
  have d1 := row_fresh H_d1.out f8
  have d2 := row_fresh H_d2.out f8
  have d3 := row_fresh H_d3.out f8
  have d4 := row_fresh H_d4.out f8
  have d5 := row_fresh H_d5.out f8
  have r1 := row_fresh H_r1.out f8
  have r2 := row_fresh H_r2.out f8
  have r3 := row_fresh H_r3.out f8
  have fa := fresh_trans H_fa.out f8
  clear H_d1 H_d2 H_d3 H_d4 H_d5 H_r1 H_r2 H_r3 H_fa
  have H_d1 := Lib.hid d1; clear d1
  have H_d2 := Lib.hid d2; clear d2
  have H_d3 := Lib.hid d3; clear d3
  have H_d4 := Lib.hid d4; clear d4
  have H_d5 := Lib.hid d5; clear d5
  have H_r1 := Lib.hid r1; clear r1
  have H_r2 := Lib.hid r2; clear r2
  have H_r3 := Lib.hid r3; clear r3
  have H_fa := Lib.hid fa; clear fa
  have H_f8 := Lib.hid f8; clear f8
  go_wp2_with (fail)
  generalize hw9 : w8.alloc _ = w9
  have f9 : Fresh w8 w9 := by rw [← hw9]; exact (Keep.refl _ _).alloc _
  have d1 := row_fresh H_d1.out f9
  have d2 := row_fresh H_d2.out f9
  have d3 := row_fresh H_d3.out f9
  have d4 := row_fresh H_d4.out f9
  have d5 := row_fresh H_d5.out f9
  have r1 := row_fresh H_r1.out f9
  have r2 := row_fresh H_r2.out f9
  have r3 := row_fresh H_r3.out f9
  have fa := fresh_trans H_fa.out f9
  clear H_d1 H_d2 H_d3 H_d4 H_d5 H_r1 H_r2 H_r3 H_fa
  have H_d1 := Lib.hid d1; clear d1
  have H_d2 := Lib.hid d2; clear d2
  have H_d3 := Lib.hid d3; clear d3
  have H_d4 := Lib.hid d4; clear d4
  have H_d5 := Lib.hid d5; clear d5
  have H_r1 := Lib.hid r1; clear r1
  have H_r2 := Lib.hid r2; clear r2
  have H_r3 := Lib.hid r3; clear r3
  have H_fa := Lib.hid fa; clear fa
  have H_f9 := Lib.hid f9; clear f9
  have H_hw9 := Lib.hid hw9; clear hw9
  refine (fix_any nz sz cz _ hsz).mono ?_
  rintro e wt ⟨rfl, ft⟩
  have d1 := row_fresh H_d1.out ft
  have d2 := row_fresh H_d2.out ft
  have d3 := row_fresh H_d3.out ft
  have d4 := row_fresh H_d4.out ft
  have d5 := row_fresh H_d5.out ft
  have r1 := row_fresh H_r1.out ft
  have r2 := row_fresh H_r2.out ft
  have r3 := row_fresh H_r3.out ft
  have fa := fresh_trans H_fa.out ft
  have p0 := row_cell d4 0
  have p1 := row_cell d4 1
  have p2 := row_cell d4 2
  have p3 := row_cell d5 0
  simp at p0 p1 p2 p3
  have q0 : wt.frozen? ⟨g + 1 + 1 + 1, 0, none⟩ = false := frozen_of_row _ _ _ _ _ d4
  have q1 : wt.frozen? ⟨g + 1 + 1 + 1, 1, none⟩ = false := frozen_of_row _ _ _ _ _ d4
  have q2 : wt.frozen? ⟨g + 1 + 1 + 1, 2, none⟩ = false := frozen_of_row _ _ _ _ _ d4
  have q3 : wt.frozen? ⟨g + 1 + 1 + 1 + 1, 0, none⟩ = false := frozen_of_row _ _ _ _ _ d5
  clear H_d1 H_d2 H_d3 H_d4 H_d5 H_r1 H_r2 H_r3 H_fa
  have H_d1 := Lib.hid d1; clear d1
  have H_d2 := Lib.hid d2; clear d2
  have H_d3 := Lib.hid d3; clear d3
  have H_d4 := Lib.hid d4; clear d4
  have H_d5 := Lib.hid d5; clear d5
  have H_r1 := Lib.hid r1; clear r1
  have H_r2 := Lib.hid r2; clear r2
  have H_r3 := Lib.hid r3; clear r3
  have H_fa := Lib.hid fa; clear fa
  have H_ft := Lib.hid ft; clear ft
  go_wp2_with (fail)
  refine leaves_cons (f := 58) (args := #[.pointer (some ⟨g + 1 + 1 + 1, 0, none⟩), .pointer (some ⟨g + 1 + 1 + 1 + 1, 0, none⟩)]) (by simp) (by simp [go_sem]) ?_
  refine (FixSubMulX1_idle _ _ _).mono ?_
  rintro e u' w'' ⟨rfl, rfl, rfl⟩
  refine ⟨.tuple #[fx nz cz sz, .int .i64 0], results_cell_cell rfl _ _ (g + 1 + 1 + 1) 24 #[.bool nz, .int .u64 cz, .int .i64 sz] (0, 0) _ (g + 1 + 1 + 1 + 1) _ rfl rfl ?_ Tryz.underlying24 rfl (by kernel_rfl) ?_, ?_⟩
  · rw [row_far (by omega)]; exact row3 H_d4.out
  · have hcell : ((((wt.setCell ⟨g + 1 + 1 + 1, 0, none⟩ (.bool nz)).setCell ⟨g + 1 + 1 + 1, 1, none⟩ (.int .u64 cz)).setCell ⟨g + 1 + 1 + 1, 2, none⟩ (.int .i64 sz)).setCell ⟨g + 1 + 1 + 1 + 1, 0, none⟩ (.int .i64 0)).cell? ⟨g + 1 + 1 + 1 + 1, 0, none⟩ = some (.int .i64 0) :=
      cell?_setCell_eq rfl (by rw [far3 (by omega) p3]; rfl)
    simp [loadVar, go_sem, hcell]
  · exact ⟨rfl, (H_fa.out.set3 (by have := H_hg.out; omega)).setCell (fun h => by have := H_hg.out; change g + 1 + 1 + 1 + 1 < w.heap.size at h; omega) _⟩

set_option maxRecDepth 20000 in
set_option maxHeartbeats 4000000 in
theorem FixSubMul_err (n1 n2 n3 : Bool) (c1 s1 c2 s2 c3 s3 : Nat) (w : World) (hs1 : s1 ≤ 19) (hs2 : s2 ≤ 19) (hs3 : s3 ≤ 19) (hc1 : c1 ≤ 9999999999999999999) (hc2 : c2 ≤ 9999999999999999999) (hc3 : c3 ≤ 9999999999999999999) 
    (hm : ∀ W, Fresh w W → Calls Tryz.prog 59 #[gd (n1 && decide (0 < c1)) s1 c1, gd (n2 && decide (0 < c2)) s2 c2, gd (n3 && decide (0 < c3)) s3 c3] W (ClampErr W)) :
    Calls Tryz.prog 28 #[fx n1 c1 s1, fx n2 c2 s2, fx n3 c3 s3] w (VRet w (.tuple #[.agg #[.bool false, .int .u64 0, .int .i64 0], .int .i64 1])) := by
  have hmf : ∀ (fn : Fn) (first cap : Array Value) (w : World), (Instr.makeFunc fn first cap).run Tryz.prog w = .ok (.func fn first cap) w := fun _ _ _ _ => rfl
  obtain ⟨m1, e1⟩ : ∃ n, n = (n1 && decide (0 < c1)) := ⟨_, rfl⟩
  obtain ⟨m2, e2⟩ : ∃ n, n = (n2 && decide (0 < c2)) := ⟨_, rfl⟩
  obtain ⟨m3, e3⟩ : ∃ n, n = (n3 && decide (0 < c3)) := ⟨_, rfl⟩
  rw [← e1, ← e2, ← e3] at hm
  have H_hm := Lib.hid hm; clear hm
  have H_e1 := Lib.hid e1; clear e1
  have H_e2 := Lib.hid e2; clear e2
  have H_e3 := Lib.hid e3; clear e3
  go_enter_defers Tryz.func28, Tryz.ntmps28
  go_wp2_with (fail)
  obtain ⟨g, hg⟩ : ∃ g, g = w.heap.size := ⟨_, rfl⟩
  have bx := boxes5T w #[.bool n1, .int .u64 c1, .int .i64 s1] #[.bool n2, .int .u64 c2, .int .i64 s2] #[.bool n3, .int .u64 c3, .int .i64 s3] #[.bool false, .int .u64 0, .int .i64 0] #[.int .i64 0] 24 24 24 24 3 g hg
  have H_bx := Lib.hid bx; clear bx
  generalize hw1 : ((((w.alloc _).alloc _).alloc _).alloc _).alloc _ = w1
  rw [← hg]
  obtain ⟨d1, d2, d3, d4, d5, fa⟩ := H_bx.out w1 hw1
  have H_d1 := Lib.hid d1; clear d1
  have H_d2 := Lib.hid d2; clear d2
  have H_d3 := Lib.hid d3; clear d3
  have H_d4 := Lib.hid d4; clear d4
  have H_d5 := Lib.hid d5; clear d5
  have H_fa := Lib.hid fa; clear fa
  have H_hw1 := Lib.hid hw1; clear hw1
  have H_hg := Lib.hid hg; clear hg
  refine (fixed_any n1 s1 c1 _ hs1 hc1).mono ?_
  rintro e w2 ⟨rfl, f2⟩
  rw [← H_e1.out]
  have d1 := row_fresh H_d1.out f2
  have d2 := row_fresh H_d2.out f2
  have d3 := row_fresh H_d3.out f2
  have d4 := row_fresh H_d4.out f2
  have d5 := row_fresh H_d5.out f2
  have fa := fresh_trans H_fa.out f2
  obtain ⟨h1, hh1⟩ : ∃ h, h = w2.heap.size := ⟨_, rfl⟩
  have ak0 := row_cell d2 0
  have ak1 := row_cell d2 1
  have ak2 := row_cell d2 2
  simp at ak0 ak1 ak2
  have a0 := fun o => cell_fresh ak0 ((Keep.refl (fun _ => False) w2).alloc o)
  have a1 := fun o => cell_fresh ak1 ((Keep.refl (fun _ => False) w2).alloc o)
  have a2 := fun o => cell_fresh ak2 ((Keep.refl (fun _ => False) w2).alloc o)
  clear ak0 ak1 ak2
  clear H_d1 H_d2 H_d3 H_d4 H_d5 H_fa
  have H_d1 := Lib.hid d1; clear d1
  have H_d2 := Lib.hid d2; clear d2
  have H_d3 := Lib.hid d3; clear d3
  have H_d4 := Lib.hid d4; clear d4
  have H_d5 := Lib.hid d5; clear d5
  have H_fa := Lib.hid fa; clear fa
  have H_f2 := Lib.hid f2; clear f2
  have H_hh1 := Lib.hid hh1; clear hh1
  go_wp2_with (fail)
  generalize hw3 : w2.alloc _ = w3
  have f3 : Fresh w2 w3 := by rw [← hw3]; exact (Keep.refl _ _).alloc _
  have r1 : w3.heap[h1]? = some (.cells #[.bool m1, .int .i8 s1, .int .u64 c1] 50 (0, 0)) := by rw [← hw3, H_hh1.out]; exact heap_alloc_new w2 _
  rw [← H_hh1.out]
  have d1 := row_fresh H_d1.out f3
  have d2 := row_fresh H_d2.out f3
  have d3 := row_fresh H_d3.out f3
  have d4 := row_fresh H_d4.out f3
  have d5 := row_fresh H_d5.out f3
  have fa := fresh_trans H_fa.out f3
  clear a0 a1 a2
  clear H_d1 H_d2 H_d3 H_d4 H_d5 H_fa
  have H_d1 := Lib.hid d1; clear d1
  have H_d2 := Lib.hid d2; clear d2
  have H_d3 := Lib.hid d3; clear d3
  have H_d4 := Lib.hid d4; clear d4
  have H_d5 := Lib.hid d5; clear d5
  have H_r1 := Lib.hid r1; clear r1
  have H_fa := Lib.hid fa; clear fa
  have H_f3 := Lib.hid f3; clear f3
  have H_hw3 := Lib.hid hw3; clear hw3
  refine (fixed_any n2 s2 c2 _ hs2 hc2).mono ?_
  rintro e w4 ⟨rfl, f4⟩
  rw [← H_e2.out]
  have d1 := row_fresh H_d1.out f4
  have d2 := row_fresh H_d2.out f4
  have d3 := row_fresh H_d3.out f4
  have d4 := row_fresh H_d4.out f4
  have d5 := row_fresh H_d5.out f4
  have r1 := row_fresh H_r1.out f4
  have fa := fresh_trans H_fa.out f4
  obtain ⟨h2, hh2⟩ : ∃ h, h = w4.heap.size := ⟨_, rfl⟩
  have ak0 := row_cell d3 0
  have ak1 := row_cell d3 1
  have ak2 := row_cell d3 2
  simp at ak0 ak1 ak2
  have a0 := fun o => cell_fresh ak0 ((Keep.refl (fun _ => False) w4).alloc o)
  have a1 := fun o => cell_fresh ak1 ((Keep.refl (fun _ => False) w4).alloc o)
  have a2 := fun o => cell_fresh ak2 ((Keep.refl (fun _ => False) w4).alloc o)
  clear ak0 ak1 ak2
  clear H_d1 H_d2 H_d3 H_d4 H_d5 H_r1 H_fa
  have H_d1 := Lib.hid d1; clear d1
  have H_d2 := Lib.hid d2; clear d2
  have H_d3 := Lib.hid d3; clear d3
  have H_d4 := Lib.hid d4; clear d4
  have H_d5 := Lib.hid d5; clear d5
  have H_r1 := Lib.hid r1; clear r1
  have H_fa := Lib.hid fa; clear fa
  have H_f4 := Lib.hid f4; clear f4
  have H_hh2 := Lib.hid hh2; clear hh2
  go_wp2_with (fail)
  generalize hw5 : w4.alloc _ = w5
  have f5 : Fresh w4 w5 := by rw [← hw5]; exact (Keep.refl _ _).alloc _
  have r2 : w5.heap[h2]? = some (.cells #[.bool m2, .int .i8 s2, .int .u64 c2] 50 (0, 0)) := by rw [← hw5, H_hh2.out]; exact heap_alloc_new w4 _
  rw [← H_hh2.out]
  have d1 := row_fresh H_d1.out f5
  have d2 := row_fresh H_d2.out f5
  have d3 := row_fresh H_d3.out f5
  have d4 := row_fresh H_d4.out f5
  have d5 := row_fresh H_d5.out f5
  have r1 := row_fresh H_r1.out f5
  have fa := fresh_trans H_fa.out f5
  clear a0 a1 a2
  clear H_d1 H_d2 H_d3 H_d4 H_d5 H_r1 H_fa
  have H_d1 := Lib.hid d1; clear d1
  have H_d2 := Lib.hid d2; clear d2
  have H_d3 := Lib.hid d3; clear d3
  have H_d4 := Lib.hid d4; clear d4
  have H_d5 := Lib.hid d5; clear d5
  have H_r1 := Lib.hid r1; clear r1
  have H_r2 := Lib.hid r2; clear r2
  have H_fa := Lib.hid fa; clear fa
  have H_f5 := Lib.hid f5; clear f5
  have H_hw5 := Lib.hid hw5; clear hw5
  refine (fixed_any n3 s3 c3 _ hs3 hc3).mono ?_
  rintro e w6 ⟨rfl, f6⟩
  rw [← H_e3.out]
  have d1 := row_fresh H_d1.out f6
  have d2 := row_fresh H_d2.out f6
  have d3 := row_fresh H_d3.out f6
  have d4 := row_fresh H_d4.out f6
  have d5 := row_fresh H_d5.out f6
  have r1 := row_fresh H_r1.out f6
  have r2 := row_fresh H_r2.out f6
  have fa := fresh_trans H_fa.out f6
  obtain ⟨h3, hh3⟩ : ∃ h, h = w6.heap.size := ⟨_, rfl⟩
  have ak0 := row_cell r1 0
  have ak1 := row_cell r1 1
  have ak2 := row_cell r1 2
  simp at ak0 ak1 ak2
  have a0 := fun o => cell_fresh ak0 ((Keep.refl (fun _ => False) w6).alloc o)
  have a1 := fun o => cell_fresh ak1 ((Keep.refl (fun _ => False) w6).alloc o)
  have a2 := fun o => cell_fresh ak2 ((Keep.refl (fun _ => False) w6).alloc o)
  clear ak0 ak1 ak2
  have bk0 := row_cell r2 0
  have bk1 := row_cell r2 1
  have bk2 := row_cell r2 2
  simp at bk0 bk1 bk2
  have b0 := fun o => cell_fresh bk0 ((Keep.refl (fun _ => False) w6).alloc o)
  have b1 := fun o => cell_fresh bk1 ((Keep.refl (fun _ => False) w6).alloc o)
  have b2 := fun o => cell_fresh bk2 ((Keep.refl (fun _ => False) w6).alloc o)
  clear bk0 bk1 bk2
  clear H_d1 H_d2 H_d3 H_d4 H_d5 H_r1 H_r2 H_fa
  have H_d1 := Lib.hid d1; clear d1
  have H_d2 := Lib.hid d2; clear d2
  have H_d3 := Lib.hid d3; clear d3
  have H_d4 := Lib.hid d4; clear d4
  have H_d5 := Lib.hid d5; clear d5
  have H_r1 := Lib.hid r1; clear r1
  have H_r2 := Lib.hid r2; clear r2
  have H_fa := Lib.hid fa; clear fa
  have H_f6 := Lib.hid f6; clear f6
  have H_hh3 := Lib.hid hh3; clear hh3
  go_wp2_with (fail)
  generalize hw7 : w6.alloc _ = w7
  have f7 : Fresh w6 w7 := by rw [← hw7]; exact (Keep.refl _ _).alloc _
  have r3 : w7.heap[h3]? = some (.cells #[.bool m3, .int .i8 s3, .int .u64 c3] 50 (0, 0)) := by rw [← hw7, H_hh3.out]; exact heap_alloc_new w6 _
  rw [← H_hh3.out]
  have d1 := row_fresh H_d1.out f7
  have d2 := row_fresh H_d2.out f7
  have d3 := row_fresh H_d3.out f7
  have d4 := row_fresh H_d4.out f7
  have d5 := row_fresh H_d5.out f7
  have r1 := row_fresh H_r1.out f7
  have r2 := row_fresh H_r2.out f7
  have fa := fresh_trans H_fa.out f7
  clear a0 a1 a2 b0 b1 b2
  clear H_d1 H_d2 H_d3 H_d4 H_d5 H_r1 H_r2 H_fa
  have H_d1 := Lib.hid d1; clear d1
  have H_d2 := Lib.hid d2; clear d2
  have H_d3 := Lib.hid d3; clear d3
  have H_d4 := Lib.hid d4; clear d4
  have H_d5 := Lib.hid d5; clear d5
  have H_r1 := Lib.hid r1; clear r1
  have H_r2 := Lib.hid r2; clear r2
  have H_r3 := Lib.hid r3; clear r3
  have H_fa := Lib.hid fa; clear fa
  have H_f7 := Lib.hid f7; clear f7
  have H_hw7 := Lib.hid hw7; clear hw7
  refine (H_hm.out _ H_fa.out).mono ?_
  rintro e w8 ⟨ae, rfl, f8⟩
  have d1 := row_fresh H_d1.out f8
  have d2 := row_fresh H_d2.out f8
  have d3 := row_fresh H_d3.out f8
  have d4 := row_fresh H_d4.out f8
  have d5 := row_fresh H_d5.out f8
  have r1 := row_fresh H_r1.out f8
  have r2 := row_fresh H_r2.out f8
  have r3 := row_fresh H_r3.out f8
  have fa := fresh_trans H_fa.out f8
  have d4a := fun o => row_fresh d4 ((Keep.refl (fun _ => False) w8).alloc o)
  have d5a := fun o => row_fresh d5 ((Keep.refl (fun _ => False) w8).alloc o)
  have p0 := fun o => row_cell (d4a o) 0
  have p1 := fun o => row_cell (d4a o) 1
  have p2 := fun o => row_cell (d4a o) 2
  have p3 := fun o => row_cell (d5a o) 0
  simp at p0 p1 p2 p3
  have q0 := fun o => (frozen_of_row (w8.alloc o) (g + 1 + 1 + 1) 0 _ _ (d4a o) : _ = false)
  have q1 := fun o => (frozen_of_row (w8.alloc o) (g + 1 + 1 + 1) 1 _ _ (d4a o) : _ = false)
  have q2 := fun o => (frozen_of_row (w8.alloc o) (g + 1 + 1 + 1) 2 _ _ (d4a o) : _ = false)
  have q3 := fun o => (frozen_of_row (w8.alloc o) (g + 1 + 1 + 1 + 1) 0 _ _ (d5a o) : _ = false)
  clear d4a d5a
  clear H_d1 H_d2 H_d3 H_d4 H_d5 H_r1 H_r2 H_r3 H_fa
  have H_d1 := Lib.hid d1; clear d1
  have H_d2 := Lib.hid d2; clear d2
  have H_d3 := Lib.hid d3; clear d3
  have H_d4 := Lib.hid d4; clear d4
  have H_d5 := Lib.hid d5; clear d5
  have H_r1 := Lib.hid r1; clear r1
  have H_r2 := Lib.hid r2; clear r2
  have H_r3 := Lib.hid r3; clear r3
  have H_fa := Lib.hid fa; clear fa
  have H_f8 := Lib.hid f8; clear f8
  go_wp2_with (fail)
  clear p0 p1 p2 p3 q0 q1 q2 q3
  generalize hw9 : w8.alloc _ = w9
  have f9 : Fresh w8 w9 := by rw [← hw9]; exact (Keep.refl _ _).alloc _
  have d4 := row_fresh H_d4.out f9
  have d5 := row_fresh H_d5.out f9
  have fa := fresh_trans H_fa.out f9
  have p3 := row_cell d5 0
  simp at p3
  clear H_d4 H_d5 H_fa
  have H_d4 := Lib.hid d4; clear d4
  have H_d5 := Lib.hid d5; clear d5
  have H_fa := Lib.hid fa; clear fa
  have H_f9 := Lib.hid f9; clear f9
  have H_hw9 := Lib.hid hw9; clear hw9
  refine leaves_cons (f := 58) (args := #[.pointer (some ⟨g + 1 + 1 + 1, 0, none⟩), .pointer (some ⟨g + 1 + 1 + 1 + 1, 0, none⟩)]) (by simp) (by simp [go_sem]) ?_
  refine (FixSubMulX1_idle _ _ _).mono ?_
  rintro e u' w'' ⟨rfl, rfl, rfl⟩
  refine ⟨.tuple #[.agg #[.bool false, .int .u64 0, .int .i64 0], .int .i64 1], results_cell_cell rfl _ _ (g + 1 + 1 + 1) 24 #[.bool false, .int .u64 0, .int .i64 0] (0, 0) _ (g + 1 + 1 + 1 + 1) _ rfl rfl ?_ Tryz.underlying24 rfl (by kernel_rfl) ?_, ?_⟩
  · rw [row_far (by omega)]; exact row3 H_d4.out
  · have hcell : ((((w9.setCell ⟨g + 1 + 1 + 1, 0, none⟩ (.bool false)).setCell ⟨g + 1 + 1 + 1, 1, none⟩ (.int .u64 0)).setCell ⟨g + 1 + 1 + 1, 2, none⟩ (.int .i64 0)).setCell ⟨g + 1 + 1 + 1 + 1, 0, none⟩ (.int .i64 1)).cell? ⟨g + 1 + 1 + 1 + 1, 0, none⟩ = some (.int .i64 1) :=
      cell?_setCell_eq rfl (by rw [far3 (by omega) p3]; rfl)
    simp [loadVar, go_sem, hcell]
  · exact ⟨rfl, (H_fa.out.set3 (by have := H_hg.out; omega)).setCell (fun h => by have := H_hg.out; change g + 1 + 1 + 1 + 1 < w.heap.size at h; omega) _⟩

end Go.Proofs.YtjdfapoomjeabaaGreatDoor
