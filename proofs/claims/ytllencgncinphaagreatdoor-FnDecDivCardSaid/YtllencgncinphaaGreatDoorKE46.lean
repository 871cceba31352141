/- The contracts of impl.Dec.. over two decimals, where the call returns and where it panics. Printed by gen_id2.py IdV DivRound:Decimal.DivRound:n Div:Decimal.Div. -/
import Derived.Recover
import Derived.Test.YtllencgncinphaaGreatDoorKE13
import Derived.Test.YtllencgncinphaaGreatDoorKE44
import Derived.Test.YtllencgncinphaaGreatDoorKE45
namespace Go.Proofs.YtllencgncinphaaGreatDoor
open Go.RowKit
open Go.Lib (hid)
set_option maxRecDepth 20000
set_option maxHeartbeats 4000000

theorem DecDiv1_idle (p q : Addr) (w : World) :
 CallsD Tryz.prog 74 #[.pointer (some p), .pointer (some q)] .returning w fun e u' w' => e = .returned (.tuple #[]) ∧ u' = .returning ∧ w' = w := by
 refine callsD_of_wpS Tryz.func74 rfl fun c₀ cs hu => ?_
 apply wpS_seq
 apply wpS_region
 simp [wpOpsS, go_sem, recoverD, hu, Tryz.ntmps74, Exit.thenS]
 refine wpS_cond (t := false) (by simp [Act.eval, Array.replicate]) ?_
 simp only [Bool.false_eq_true, if_false]
 refine wpS_of_wp (wp_skip ?_)
 cases c₀
 simp_all [bodyPostS, results, Tryz.results74]

theorem DecDiv1_caught (g h : Nat) (u : TypeId) (pv a b c : Value) (older : List PanicEntry) (w : World) (hne : g ≠ h)
 (c0 : w.cell? ⟨g, 0, none⟩ = some a) (c1 : w.cell? ⟨g, 1, none⟩ = some b) (c2 : w.cell? ⟨h, 0, none⟩ = some c) (f0 : w.frozen? ⟨g, 0, none⟩ = false) (f1 : w.frozen? ⟨g, 1, none⟩ = false) (f2 : w.frozen? ⟨h, 0, none⟩ = false) :
 CallsD Tryz.prog 74 #[.pointer (some ⟨g, 0, none⟩), .pointer (some ⟨h, 0, none⟩)] (.panicking ({ v := .iface u pv, recovered := false } :: older)) w fun e u' w' =>
  e = .returned (.tuple #[]) ∧ u' = .panicking ({ v := .iface u pv, recovered := true } :: older) ∧ w' = ((w.setCell ⟨g, 0, none⟩ (.string ⟨#[]⟩)).setCell ⟨g, 1, none⟩ (.int .i64 0)).setCell ⟨h, 0, none⟩ (.int .i64 2) := by
 have c3 : ∀ v v', ((w.setCell ⟨g, 0, none⟩ v).setCell ⟨g, 1, none⟩ v').cell? ⟨h, 0, none⟩ = some c := fun v v' => fcl (Ne.symm hne) (fcl (Ne.symm hne) c2)
 refine callsD_of_wpS Tryz.func74 rfl fun c₀ cs hu => ?_
 apply wpS_seq
 apply wpS_region
 simp [wpOpsS, go_sem, recoverD, hu, Tryz.ntmps74, Exit.thenS]
 refine wpS_cond (t := true) (by simp [Act.eval, Array.replicate]) ?_
 simp only [if_true]
 apply wpS_region
 simp [wpOpsS, go_sem, c0, c1, c3, f0, f1, f2, bodyPostS, results, Tryz.results74]

theorem DecDiv_ok (z1 z2 zr e1 e2 er : Int) (p : Nat) (w : World) (hz1 : (wdig z1).length ≤ 300) (hz2 : (wdig z2).length ≤ 300) (he1 : -400 ≤ e1 ∧ e1 ≤ 400) (he2 : -400 ≤ e2 ∧ e2 ≤ 400) (her : -2147483648 ≤ er ∧ er ≤ 2147483647) (hp : p ≤ 600) (hzr : zr.natAbs < 10 ^ p)
 (hNG : NG ≤ w.heap.size)
 (hm : ∀ b1 v1 b2 v2 W, Fresh w W → ZI W b1 v1 z1 → ZI W b2 v2 z2 → b1 ≠ b2 → Calls Tryz.prog 75 #[sd b1 e1, sd b2 e2] W (fun r w' => (∃ b v, r = .returned (sd b er) ∧ ZI w' b v zr) ∧ Fresh W w')) :
 Calls Tryz.prog 30 #[dd z1 e1, dd z2 e2] w (fun r w' => r = .returned (.tuple #[dd zr er, .int .i64 0]) ∧ Fresh w w') := by
 have hmf : ∀ (fn : Fn) (first cap : Array Value) (w : World), (Instr.makeFunc fn first cap).run Tryz.prog w = .ok (.func fn first cap) w := fun _ _ _ _ => rfl
 have hm1 := fun W (hW : Fresh w W) => made_any z1 e1 W hz1 he1 (Nat.le_trans hNG hW.size)
 have hm2 := fun W (hW : Fresh w W) => made_any z2 e2 W hz2 he2 (Nat.le_trans hNG hW.size)
 have hdc := fun b v W (hx : ZI W b v zr) => dec_any b v zr er p W her hx hp hzr
 unfold dd
 generalize bstr (wdig z1) = t1 at *
 generalize bstr (wdig z2) = t2 at *
 generalize bstr (wdig zr) = tr at *
 clear hz1 hz2 he1 he2 hNG her hzr hp
 have H_hm := hid hm; have H_hm1 := hid hm1; have H_hm2 := hid hm2; have H_hdc := hid hdc; clear hm hm1 hm2 hdc
 go_enter_defers Tryz.func30, Tryz.ntmps30
 go_wp2_with (fail)
 obtain ⟨g, hg⟩ : ∃ g, g = w.heap.size := ⟨_, rfl⟩
 have bx := boxes4 w #[.string t1, .int .i64 e1] #[.string t2, .int .i64 e2] #[.string ⟨#[]⟩, .int .i64 0] #[.int .i64 0] 23 23 23 3 g hg
 have H_bx := hid bx; clear bx
 generalize hw1 : (((w.alloc _).alloc _).alloc _).alloc _ = w1
 rw [← hg]
 obtain ⟨d1, d2, d3, d4, fa⟩ := H_bx.out w1 hw1
 have H_d1 := hid d1; have H_d2 := hid d2; have H_d3 := hid d3; have H_d4 := hid d4; have H_fa := hid fa; have H_hw1 := hid hw1; have H_hg := hid hg; clear d1 d2 d3 d4 fa hw1 hg
 refine (H_hm1.out _ H_fa.out).mono ?_
 rintro e w2 ⟨b1, v1, rfl, y1, -, -, f2⟩
 have d1 := rfr H_d1.out f2
 have d2 := rfr H_d2.out f2
 have d3 := rfr H_d3.out f2
 have d4 := rfr H_d4.out f2
 have fa := ftr H_fa.out f2
 obtain ⟨h1, hh1⟩ : ∃ h, h = w2.heap.size := ⟨_, rfl⟩
 have ak0 := rwc d2 0
 have ak1 := rwc d2 1
 simp at ak0 ak1
 have a0 := fun o => cfr ak0 ((Keep.refl (fun _ => False) w2).alloc o)
 have a1 := fun o => cfr ak1 ((Keep.refl (fun _ => False) w2).alloc o)
 clear ak0 ak1
 clear H_d1 H_d2 H_d3 H_d4 H_fa
 have H_d1 := hid d1; have H_d2 := hid d2; have H_d3 := hid d3; have H_d4 := hid d4; have H_fa := hid fa; have H_f2 := hid f2; have H_hh1 := hid hh1; have H_y1 := hid y1; clear d1 d2 d3 d4 fa f2 hh1 y1
 go_wp2_with (fail)
 generalize hw3 : w2.alloc _ = w3
 have f3 : Fresh w2 w3 := by rw [← hw3]; exact (Keep.refl _ _).alloc _
 have r1 : w3.heap[h1]? = some (.cells #[.pointer (some ⟨b1, 0, none⟩), .int .i32 e1] 61 (0, 0)) := by rw [← hw3, H_hh1.out]; exact heap_alloc_new w2 _
 rw [← H_hh1.out]
 have d1 := rfr H_d1.out f3
 have d2 := rfr H_d2.out f3
 have d3 := rfr H_d3.out f3
 have d4 := rfr H_d4.out f3
 have y1 := H_y1.out.fresh f3
 have fa := ftr H_fa.out f3
 have hb1 := y1.lt
 clear a0 a1
 clear H_d1 H_d2 H_d3 H_d4 H_fa H_y1
 have H_d1 := hid d1; have H_d2 := hid d2; have H_d3 := hid d3; have H_d4 := hid d4; have H_r1 := hid r1; have H_fa := hid fa; have H_f3 := hid f3; have H_hw3 := hid hw3; have H_y1 := hid y1; have H_hb1 := hid hb1; clear d1 d2 d3 d4 r1 fa f3 hw3 y1 hb1
 refine (H_hm2.out _ H_fa.out).mono ?_
 rintro e w4 ⟨b2, v2, rfl, y2, hb2, -, f4⟩
 have hb12 : b1 ≠ b2 := by have := H_hb1.out; omega
 have d1 := rfr H_d1.out f4
 have d2 := rfr H_d2.out f4
 have d3 := rfr H_d3.out f4
 have d4 := rfr H_d4.out f4
 have r1 := rfr H_r1.out f4
 have y1 := H_y1.out.fresh f4
 have fa := ftr H_fa.out f4
 obtain ⟨h2, hh2⟩ : ∃ h, h = w4.heap.size := ⟨_, rfl⟩
 have ak0 := rwc r1 0
 have ak1 := rwc r1 1
 simp at ak0 ak1
 have a0 := fun o => cfr ak0 ((Keep.refl (fun _ => False) w4).alloc o)
 have a1 := fun o => cfr ak1 ((Keep.refl (fun _ => False) w4).alloc o)
 clear ak0 ak1
 clear H_d1 H_d2 H_d3 H_d4 H_r1 H_fa H_y1 hb2
 have H_d1 := hid d1; have H_d2 := hid d2; have H_d3 := hid d3; have H_d4 := hid d4; have H_fa := hid fa; have H_f4 := hid f4; have H_hh2 := hid hh2; have H_y1 := hid y1; have H_y2 := hid y2; have H_hb12 := hid hb12; clear d1 d2 d3 d4 fa f4 hh2 y1 y2 hb12
 go_wp2_with (fail)
 generalize hw5 : w4.alloc _ = w5
 have f5 : Fresh w4 w5 := by rw [← hw5]; exact (Keep.refl _ _).alloc _
 rw [← H_hh2.out]
 have d1 := rfr H_d1.out f5
 have d2 := rfr H_d2.out f5
 have d3 := rfr H_d3.out f5
 have d4 := rfr H_d4.out f5
 have y1 := H_y1.out.fresh f5
 have y2 := H_y2.out.fresh f5
 have fa := ftr H_fa.out f5
 clear a0 a1
 clear H_d1 H_d2 H_d3 H_d4 H_fa H_y1 H_y2
 have H_d1 := hid d1; have H_d2 := hid d2; have H_d3 := hid d3; have H_d4 := hid d4; have H_fa := hid fa; have H_f5 := hid f5; have H_hw5 := hid hw5; have H_y1 := hid y1; have H_y2 := hid y2; clear d1 d2 d3 d4 fa f5 hw5 y1 y2
 refine (H_hm.out _ _ _ _ _ H_fa.out H_y1.out H_y2.out H_hb12.out).mono ?_
 rintro e w6 ⟨⟨b, v, rfl, y⟩, f6⟩
 have d1 := rfr H_d1.out f6
 have d2 := rfr H_d2.out f6
 have d3 := rfr H_d3.out f6
 have d4 := rfr H_d4.out f6
 have fa := ftr H_fa.out f6
 clear H_d1 H_d2 H_d3 H_d4 H_fa
 have H_d1 := hid d1; have H_d2 := hid d2; have H_d3 := hid d3; have H_d4 := hid d4; have H_fa := hid fa; have H_f6 := hid f6; have H_y := hid y; clear d1 d2 d3 d4 fa f6 y
 go_wp2_with (fail)
 refine (H_hdc.out _ _ _ H_y.out).mono ?_
 rintro e w8 ⟨rfl, f8⟩
 have d1 := rfr H_d1.out f8
 have d2 := rfr H_d2.out f8
 have d3 := rfr H_d3.out f8
 have d4 := rfr H_d4.out f8
 have fa := ftr H_fa.out f8
 have p0 := rwc d3 0
 have p1 := rwc d3 1
 have p3 := rwc d4 0
 simp at p0 p1 p3
 have q0 : w8.frozen? ⟨g + 1 + 1, 0, none⟩ = false := frozen_of_row _ _ _ _ _ d3
 have q1 : w8.frozen? ⟨g + 1 + 1, 1, none⟩ = false := frozen_of_row _ _ _ _ _ d3
 have q3 : w8.frozen? ⟨g + 1 + 1 + 1, 0, none⟩ = false := frozen_of_row _ _ _ _ _ d4
 clear H_d1 H_d2 H_d3 H_d4 H_fa
 have H_d1 := hid d1; have H_d2 := hid d2; have H_d3 := hid d3; have H_d4 := hid d4; have H_fa := hid fa; have H_f8 := hid f8; clear d1 d2 d3 d4 fa f8
 go_wp2_with (fail)
 refine leaves_cons (f := 74) (args := #[.pointer (some ⟨g + 1 + 1, 0, none⟩), .pointer (some ⟨g + 1 + 1 + 1, 0, none⟩)]) (by simp) (by simp [go_sem]) ?_
 refine (DecDiv1_idle _ _ _).mono ?_
 rintro e u' w'' ⟨rfl, rfl, rfl⟩
 refine ⟨.tuple #[.agg #[.string tr, .int .i64 er], .int .i64 0], results_cell_cell rfl _ _ (g + 1 + 1) 23 #[.string tr, .int .i64 er] (0, 0) _ (g + 1 + 1 + 1) _ rfl rfl ?_ Tryz.underlying23 rfl (by kernel_rfl) ?_, ?_⟩
 · rw [row_far (by omega)]; exact rst (rst H_d3.out)
 · have hcell : (((w8.setCell ⟨g + 1 + 1, 0, none⟩ (.string tr)).setCell ⟨g + 1 + 1, 1, none⟩ (.int .i64 er)).setCell ⟨g + 1 + 1 + 1, 0, none⟩ (.int .i64 0)).cell? ⟨g + 1 + 1 + 1, 0, none⟩ = some (.int .i64 0) :=
    cell?_setCell_eq rfl (by rw [far2 (by omega) p3]; rfl)
   simp [loadVar, go_sem, hcell]
 · have hgw := H_hg.out
   exact ⟨rfl, ((H_fa.out.setCell (p := ⟨g + 1 + 1, 0, none⟩) (fun h => by change g + 1 + 1 < w.heap.size at h; omega) _).setCell (p := ⟨g + 1 + 1, 1, none⟩) (fun h => by change g + 1 + 1 < w.heap.size at h; omega) _).setCell (p := ⟨g + 1 + 1 + 1, 0, none⟩) (fun h => by change g + 1 + 1 + 1 < w.heap.size at h; omega) _⟩

theorem DecDiv_zero (z1 z2 e1 e2 : Int) (w : World) (hz1 : (wdig z1).length ≤ 300) (hz2 : (wdig z2).length ≤ 300) (he1 : -400 ≤ e1 ∧ e1 ≤ 400) (he2 : -400 ≤ e2 ∧ e2 ≤ 400) 
 (hNG : NG ≤ w.heap.size)
 (hm : ∀ b1 v1 b2 v2 W, Fresh w W → ZI W b1 v1 z1 → ZI W b2 v2 z2 → b1 ≠ b2 → Calls Tryz.prog 75 #[sd b1 e1, sd b2 e2] W (fun r w' => (∃ u pv, r = .panicked [{ v := .iface u pv, recovered := false }]) ∧ Fresh W w')) :
 Calls Tryz.prog 30 #[dd z1 e1, dd z2 e2] w (fun r w' => r = .returned (.tuple #[.agg #[.string ⟨#[]⟩, .int .i64 0], .int .i64 2]) ∧ Fresh w w') := by
 have hmf : ∀ (fn : Fn) (first cap : Array Value) (w : World), (Instr.makeFunc fn first cap).run Tryz.prog w = .ok (.func fn first cap) w := fun _ _ _ _ => rfl
 have hm1 := fun W (hW : Fresh w W) => made_any z1 e1 W hz1 he1 (Nat.le_trans hNG hW.size)
 have hm2 := fun W (hW : Fresh w W) => made_any z2 e2 W hz2 he2 (Nat.le_trans hNG hW.size)
 unfold dd
 generalize bstr (wdig z1) = t1 at *
 generalize bstr (wdig z2) = t2 at *
 clear hz1 hz2 he1 he2 hNG
 have H_hm := hid hm; have H_hm1 := hid hm1; have H_hm2 := hid hm2; clear hm hm1 hm2
 go_enter_defers Tryz.func30, Tryz.ntmps30
 go_wp2_with (fail)
 obtain ⟨g, hg⟩ : ∃ g, g = w.heap.size := ⟨_, rfl⟩
 have bx := boxes4 w #[.string t1, .int .i64 e1] #[.string t2, .int .i64 e2] #[.string ⟨#[]⟩, .int .i64 0] #[.int .i64 0] 23 23 23 3 g hg
 have H_bx := hid bx; clear bx
 generalize hw1 : (((w.alloc _).alloc _).alloc _).alloc _ = w1
 rw [← hg]
 obtain ⟨d1, d2, d3, d4, fa⟩ := H_bx.out w1 hw1
 have H_d1 := hid d1; have H_d2 := hid d2; have H_d3 := hid d3; have H_d4 := hid d4; have H_fa := hid fa; have H_hw1 := hid hw1; have H_hg := hid hg; clear d1 d2 d3 d4 fa hw1 hg
 refine (H_hm1.out _ H_fa.out).mono ?_
 rintro e w2 ⟨b1, v1, rfl, y1, -, -, f2⟩
 have d1 := rfr H_d1.out f2
 have d2 := rfr H_d2.out f2
 have d3 := rfr H_d3.out f2
 have d4 := rfr H_d4.out f2
 have fa := ftr H_fa.out f2
 obtain ⟨h1, hh1⟩ : ∃ h, h = w2.heap.size := ⟨_, rfl⟩
 have ak0 := rwc d2 0
 have ak1 := rwc d2 1
 simp at ak0 ak1
 have a0 := fun o => cfr ak0 ((Keep.refl (fun _ => False) w2).alloc o)
 have a1 := fun o => cfr ak1 ((Keep.refl (fun _ => False) w2).alloc o)
 clear ak0 ak1
 clear H_d1 H_d2 H_d3 H_d4 H_fa
 have H_d1 := hid d1; have H_d2 := hid d2; have H_d3 := hid d3; have H_d4 := hid d4; have H_fa := hid fa; have H_f2 := hid f2; have H_hh1 := hid hh1; have H_y1 := hid y1; clear d1 d2 d3 d4 fa f2 hh1 y1
 go_wp2_with (fail)
 generalize hw3 : w2.alloc _ = w3
 have f3 : Fresh w2 w3 := by rw [← hw3]; exact (Keep.refl _ _).alloc _
 have r1 : w3.heap[h1]? = some (.cells #[.pointer (some ⟨b1, 0, none⟩), .int .i32 e1] 61 (0, 0)) := by rw [← hw3, H_hh1.out]; exact heap_alloc_new w2 _
 rw [← H_hh1.out]
 have d1 := rfr H_d1.out f3
 have d2 := rfr H_d2.out f3
 have d3 := rfr H_d3.out f3
 have d4 := rfr H_d4.out f3
 have y1 := H_y1.out.fresh f3
 have fa := ftr H_fa.out f3
 have hb1 := y1.lt
 clear a0 a1
 clear H_d1 H_d2 H_d3 H_d4 H_fa H_y1
 have H_d1 := hid d1; have H_d2 := hid d2; have H_d3 := hid d3; have H_d4 := hid d4; have H_r1 := hid r1; have H_fa := hid fa; have H_f3 := hid f3; have H_hw3 := hid hw3; have H_y1 := hid y1; have H_hb1 := hid hb1; clear d1 d2 d3 d4 r1 fa f3 hw3 y1 hb1
 refine (H_hm2.out _ H_fa.out).mono ?_
 rintro e w4 ⟨b2, v2, rfl, y2, hb2, -, f4⟩
 have hb12 : b1 ≠ b2 := by have := H_hb1.out; omega
 have d1 := rfr H_d1.out f4
 have d2 := rfr H_d2.out f4
 have d3 := rfr H_d3.out f4
 have d4 := rfr H_d4.out f4
 have r1 := rfr H_r1.out f4
 have y1 := H_y1.out.fresh f4
 have fa := ftr H_fa.out f4
 obtain ⟨h2, hh2⟩ : ∃ h, h = w4.heap.size := ⟨_, rfl⟩
 have ak0 := rwc r1 0
 have ak1 := rwc r1 1
 simp at ak0 ak1
 have a0 := fun o => cfr ak0 ((Keep.refl (fun _ => False) w4).alloc o)
 have a1 := fun o => cfr ak1 ((Keep.refl (fun _ => False) w4).alloc o)
 clear ak0 ak1
 clear H_d1 H_d2 H_d3 H_d4 H_r1 H_fa H_y1 hb2
 have H_d1 := hid d1; have H_d2 := hid d2; have H_d3 := hid d3; have H_d4 := hid d4; have H_fa := hid fa; have H_f4 := hid f4; have H_hh2 := hid hh2; have H_y1 := hid y1; have H_y2 := hid y2; have H_hb12 := hid hb12; clear d1 d2 d3 d4 fa f4 hh2 y1 y2 hb12
 go_wp2_with (fail)
 generalize hw5 : w4.alloc _ = w5
 have f5 : Fresh w4 w5 := by rw [← hw5]; exact (Keep.refl _ _).alloc _
 rw [← H_hh2.out]
 have d1 := rfr H_d1.out f5
 have d2 := rfr H_d2.out f5
 have d3 := rfr H_d3.out f5
 have d4 := rfr H_d4.out f5
 have y1 := H_y1.out.fresh f5
 have y2 := H_y2.out.fresh f5
 have fa := ftr H_fa.out f5
 clear a0 a1
 clear H_d1 H_d2 H_d3 H_d4 H_fa H_y1 H_y2
 have H_d1 := hid d1; have H_d2 := hid d2; have H_d3 := hid d3; have H_d4 := hid d4; have H_fa := hid fa; have H_f5 := hid f5; have H_hw5 := hid hw5; have H_y1 := hid y1; have H_y2 := hid y2; clear d1 d2 d3 d4 fa f5 hw5 y1 y2
 refine (H_hm.out _ _ _ _ _ H_fa.out H_y1.out H_y2.out H_hb12.out).mono ?_
 rintro e w8 ⟨⟨u, pv, rfl⟩, f8⟩
 have d3 := rfr H_d3.out f8
 have d4 := rfr H_d4.out f8
 have fa := ftr H_fa.out f8
 clear H_d1 H_d2 H_d3 H_d4 H_fa
 have H_d3 := hid d3; have H_d4 := hid d4; have H_fa := hid fa; have H_f8 := hid f8; clear d3 d4 fa f8
 go_wp2_with (fail)
 have p0 := rwc H_d3.out 0
 have p1 := rwc H_d3.out 1
 have p3 := rwc H_d4.out 0
 simp at p0 p1 p3
 refine leaves_cons (f := 74) (args := #[.pointer (some ⟨g + 1 + 1, 0, none⟩), .pointer (some ⟨g + 1 + 1 + 1, 0, none⟩)]) (by simp) (by simp [go_sem]) ?_
 refine (DecDiv1_caught (g + 1 + 1) (g + 1 + 1 + 1) _ _ _ _ _ _ _ (by omega) p0 p1 p3 (frozen_of_row _ _ _ _ _ H_d3.out) (frozen_of_row _ _ _ _ _ H_d3.out) (frozen_of_row _ _ _ _ _ H_d4.out)).mono ?_
 rintro e u' w'' ⟨rfl, rfl, rfl⟩
 refine ⟨.tuple #[.agg #[.string ⟨#[]⟩, .int .i64 0], .int .i64 2], results_cell_cell rfl _ _ (g + 1 + 1) 23 #[.string ⟨#[]⟩, .int .i64 0] (0, 0) _ (g + 1 + 1 + 1) _ rfl rfl ?_ Tryz.underlying23 rfl (by kernel_rfl) ?_, ?_⟩
 · rw [row_far (by omega)]; exact rst (rst H_d3.out)
 · have hcell : (((w8.setCell ⟨g + 1 + 1, 0, none⟩ (.string ⟨#[]⟩)).setCell ⟨g + 1 + 1, 1, none⟩ (.int .i64 0)).setCell ⟨g + 1 + 1 + 1, 0, none⟩ (.int .i64 2)).cell? ⟨g + 1 + 1 + 1, 0, none⟩ = some (.int .i64 2) :=
    cell?_setCell_eq rfl (by rw [far2 (by omega) p3]; rfl)
   simp [loadVar, go_sem, hcell]
 · have hgw := H_hg.out
   exact ⟨rfl, ((H_fa.out.setCell (p := ⟨g + 1 + 1, 0, none⟩) (fun h => by change g + 1 + 1 < w.heap.size at h; omega) _).setCell (p := ⟨g + 1 + 1, 1, none⟩) (fun h => by change g + 1 + 1 < w.heap.size at h; omega) _).setCell (p := ⟨g + 1 + 1 + 1, 0, none⟩) (fun h => by change g + 1 + 1 + 1 < w.heap.size at h; omega) _⟩

theorem FnDecDiv_zero (z1 e1 z2 e2 : Int) (hz1 : z1.natAbs < 10 ^ 60) (he1 : -60 ≤ e1 ∧ e1 ≤ 60) (hz2 : z2.natAbs < 10 ^ 60) (he2 : -60 ≤ e2 ∧ e2 ≤ 60) (h0 : z2 = 0) :
 (∀ W, Glob W → DivP W → Calls Tryz.prog 30 #[.agg #[.string (bstr (wdig z1)), .int .i64 e1], .agg #[.string (bstr (wdig z2)), .int .i64 e2]] W (fun r w' => r = .returned (.tuple #[.agg #[.string ⟨#[]⟩, .int .i64 0], .int .i64 2]) ∧ Fresh W w')) ∧
 (∀ x W, SFr W x (dnum z2 e2) (dden e2) → Calls Tryz.prog 21 #[x] W (fun r w' => r = .returned (.bool true) ∧ Fresh W w')) := by
 refine ⟨fun W hW hV => ?_, fun x W hx => IsZero_t h0 x W hx⟩
 subst h0
 exact DecDiv_zero z1 0 e1 e2 W (dec300 hz1) (dec300 hz2) (by omega) (by omega) hW.1 (fun b1 v1 b2 v2 W' hW' _ hx2 _ => Div_zero b1 b2 v2 e1 e2 W' (hV.fresh hW') hx2)

theorem FnDecDiv_facts (z1 e1 z2 e2 : Int) (hz1 : z1.natAbs < 10 ^ 60) (he1 : -60 ≤ e1 ∧ e1 ≤ 60) (hz2 : z2.natAbs < 10 ^ 60) (he2 : -60 ≤ e2 ∧ e2 ≤ 60) (h0 : z2 ≠ 0) : ∃ (zr er q m N : Int) (D : Nat) (M : Int) (K : Nat),
 (∀ W, Glob W → DivP W → Calls Tryz.prog 30 #[.agg #[.string (bstr (wdig z1)), .int .i64 e1], .agg #[.string (bstr (wdig z2)), .int .i64 e2]] W (fun r w' => r = .returned (.tuple #[.agg #[.string (bstr (wdig zr)), .int .i64 er], .int .i64 0]) ∧ Fresh W w')) ∧
 (∀ x W, SFr W x (dnum z2 e2) (dden e2) → Calls Tryz.prog 21 #[x] W (fun r w' => r = .returned (.bool false) ∧ Fresh W w')) ∧
 (∀ x y W, SFr W x (dnum z1 e1) (dden e1) → SFr W y (dnum z2 e2) (dden e2) → Calls Tryz.prog 22 #[x, y] W (FRet W N D)) ∧
 (∀ x W, SFr W x N D → Calls Tryz.prog 17 #[x, .int .i64 16, .int .i64 4] W (RdIRet W q m)) ∧
 (∀ x W, RdI W x q m → Calls Tryz.prog 18 #[x] W (FRet W M K)) ∧
 (∀ x W, SFr W x M K → Calls Tryz.prog 16 #[.agg #[.string (bstr (wdig zr)), .int .i64 er], x] W (fun r w' => r = .returned (.bool true) ∧ Fresh W w')) := by
 obtain ⟨E, hE⟩ : ∃ E, E = e1 - e2 + 16 := ⟨_, rfl⟩
 obtain ⟨P, hP⟩ : ∃ P : Nat, P = 300 := ⟨_, rfl⟩
 have hA := qA_ltP (z := z1) (e := E) (P := P) hz1 (by omega)
 have hdr := fun neg => dr_law (z1 := z1) (e1 := e1) (z2 := z2) (e2 := e2) (e := E) (neg := neg) (qB_ne h0)
 have hq : (drZ z1 z2 (qA z1 E) (qB z2 E)).natAbs < 10 ^ (P + 1) := by rw [← hdr false]; exact rd_lt hA
 obtain ⟨h1, h2⟩ := says_tail (P + 1) (by omega) (by omega) (drZ z1 z2 (qA z1 E) (qB z2 E)) (-16) (drZ z1 z2 (qA z1 E) (qB z2 E)) (-16) hq (by omega) hq (by omega) rfl
 refine ⟨_, -16, _, -16, _, _, _, _, fun W hW hV => ?_, fun x W hx => IsZero_f h0 x W hx, fun x y W hx hy => FracDiv_dec hz1 he1 hz2 he2 x y W hx hy, fun x W hx => ?_, h1, h2⟩
 · exact DecDiv_ok z1 z2 _ e1 e2 (-16) (P + 1) W (dec300 hz1) (dec300 hz2) (by omega) (by omega) (by omega) (by omega) hq hW.1 (fun b1 v1 b2 v2 W' hW' hx1 hx2 _ =>
    (Div_ok b1 b2 v1 v2 z1 e1 z2 e2 E W' (hW.fresh hW') (hV.fresh hW') (wpow10_of hz1) (wpow10_of hz2) h0 hx1 hx2 (by omega) (by omega) hE (by omega)).mono fun r w' h => ⟨by obtain ⟨⟨b, v, k1, k2, -⟩, -⟩ := h; exact ⟨b, v, k1, k2⟩, h.2⟩)
 · have := RoundQ_any 4 (fun _ h _ => decide (0 ≤ h)) rounds_ha x z1 e1 z2 e2 16 W hx hz1 hz2 h0 he1 he2 (by omega)
   rw [← hE, hdr] at this
   exact this

end Go.Proofs.YtllencgncinphaaGreatDoor
