/- The contracts of impl.Dec.. over one decimal. Printed by gen_id1.py IdF Floor:Decimal.Floor Ceil:Decimal.Ceil. -/
import Derived.Test.YtllencgncinphaaGreatDoorKF9
import Derived.Test.YtllencgncinphaaGreatDoorKF19
import Derived.Test.YtllencgncinphaaGreatDoorKF20
import Derived.Test.YtllencgncinphaaGreatDoorKF40
import Derived.Test.YtllencgncinphaaGreatDoorKF42
import Derived.Test.YtllencgncinphaaGreatDoorKF46
namespace Go.Proofs.YtllencgncinphaaGreatDoor
open Go.RowKit
open Go.Lib (hid)

theorem DecFloor1_idle (p q : Addr) (w : World) :
 CallsD Tryz.prog 68 #[.pointer (some p), .pointer (some q)] .returning w fun e u' w' => e = .returned (.tuple #[]) ∧ u' = .returning ∧ w' = w := by
 refine callsD_of_wpS Tryz.func68 rfl fun c₀ cs hu => ?_
 apply wpS_seq
 apply wpS_region
 simp [wpOpsS, go_sem, recoverD, hu, Tryz.ntmps68, Exit.thenS]
 refine wpS_cond (t := false) (by simp [Act.eval, Array.replicate]) ?_
 simp only [Bool.false_eq_true, if_false]
 refine wpS_of_wp (wp_skip ?_)
 cases c₀
 simp_all [bodyPostS, results, Tryz.results68]

set_option maxRecDepth 20000 in
set_option maxHeartbeats 4000000 in
theorem DecFloor_ok (z zr e er : Int) (p : Nat) (w : World) (hz : (wdig z).length ≤ 300) (he : -400 ≤ e ∧ e ≤ 400) (her : -2147483648 ≤ er ∧ er ≤ 2147483647)
 (hp : p ≤ 600) (hzr : zr.natAbs < 10 ^ p) (hNG : NG ≤ w.heap.size)
 (hm : ∀ b1 v1 W, Fresh w W → ZI W b1 v1 z → Calls Tryz.prog 69 #[sd b1 e] W (fun r w' => ∃ b v, r = .returned (sd b er) ∧ ZI w' b v zr ∧ Fresh W w')) :
 Calls Tryz.prog 27 #[dd z e] w (fun r w' => r = .returned (.tuple #[dd zr er, .int .i64 0]) ∧ Fresh w w') := by
 have hmf : ∀ (fn : Fn) (first cap : Array Value) (w : World), (Instr.makeFunc fn first cap).run Tryz.prog w = .ok (.func fn first cap) w := fun _ _ _ _ => rfl
 have hm1 := fun W (hW : Fresh w W) => made_any z e W hz he (Nat.le_trans hNG hW.size)
 have hdc := fun b v W (hx : ZI W b v zr) => dec_any b v zr er p W her hx hp hzr
 unfold dd
 generalize bstr (wdig z) = t1 at *
 generalize bstr (wdig zr) = tr at *
 clear hz he her hzr hNG hp
 have H_hm := hid hm; have H_hm1 := hid hm1; have H_hdc := hid hdc; clear hm hm1 hdc
 go_enter_defers Tryz.func27, Tryz.ntmps27
 go_wp2_with (fail)
 obtain ⟨g, hg⟩ : ∃ g, g = w.heap.size := ⟨_, rfl⟩
 have bx := boxes3 w #[.string t1, .int .i64 e] #[.string ⟨#[]⟩, .int .i64 0] #[.int .i64 0] 23 23 3 g hg
 have H_bx := hid bx; clear bx
 generalize hw1 : ((w.alloc _).alloc _).alloc _ = w1
 rw [← hg]
 obtain ⟨d1, d3, d4, fa, -⟩ := H_bx.out w1 hw1
 have H_d1 := hid d1; have H_d3 := hid d3; have H_d4 := hid d4; have H_fa := hid fa; have H_hw1 := hid hw1; have H_hg := hid hg; clear d1 d3 d4 fa hw1 hg
 refine (H_hm1.out _ H_fa.out).mono ?_
 rintro e w2 ⟨b1, v1, rfl, y1, -, -, f2⟩
 have d3 := row_fresh H_d3.out f2
 have d4 := row_fresh H_d4.out f2
 have fa := fresh_trans H_fa.out f2
 obtain ⟨h1, hh1⟩ : ∃ h, h = w2.heap.size := ⟨_, rfl⟩
 clear H_d1 H_d3 H_d4 H_fa
 have H_d3 := hid d3; have H_d4 := hid d4; have H_fa := hid fa; have H_f2 := hid f2; have H_hh1 := hid hh1; have H_y1 := hid y1; clear d3 d4 fa f2 hh1 y1
 go_wp2_with (fail)
 generalize hw3 : w2.alloc _ = w3
 have f3 : Fresh w2 w3 := by rw [← hw3]; exact (Keep.refl _ _).alloc _
 rw [← H_hh1.out]
 have d3 := row_fresh H_d3.out f3
 have d4 := row_fresh H_d4.out f3
 have y1 := H_y1.out.fresh f3
 have fa := fresh_trans H_fa.out f3
 have r1 : w3.heap[h1]? = some (.cells #[.pointer (some ⟨b1, 0, none⟩), .int .i32 e] 61 (0, 0)) := by rw [← hw3, H_hh1.out]; exact heap_alloc_new w2 _
 have ak0 := row_cell r1 0
 have ak1 := row_cell r1 1
 simp at ak0 ak1
 clear H_d3 H_d4 H_fa H_y1
 have H_d3 := hid d3; have H_d4 := hid d4; have H_fa := hid fa; have H_f3 := hid f3; have H_hw3 := hid hw3; have H_y1 := hid y1; have H_r1 := hid r1; clear d3 d4 fa f3 hw3 y1 r1
 refine (H_hm.out _ _ _ H_fa.out H_y1.out).mono ?_
 rintro e w6 ⟨b, v, rfl, y, f6⟩
 have d3 := row_fresh H_d3.out f6
 have d4 := row_fresh H_d4.out f6
 have fa := fresh_trans H_fa.out f6
 clear H_d3 H_d4 H_fa ak0 ak1
 have H_d3 := hid d3; have H_d4 := hid d4; have H_fa := hid fa; have H_f6 := hid f6; have H_y := hid y; clear d3 d4 fa f6 y
 go_wp2_with (fail)
 refine (H_hdc.out _ _ _ H_y.out).mono ?_
 rintro e w8 ⟨rfl, f8⟩
 have d3 := row_fresh H_d3.out f8
 have d4 := row_fresh H_d4.out f8
 have fa := fresh_trans H_fa.out f8
 have p0 := row_cell d3 0
 have p1 := row_cell d3 1
 have p3 := row_cell d4 0
 simp at p0 p1 p3
 have q0 : w8.frozen? ⟨g + 1, 0, none⟩ = false := frozen_of_row _ _ _ _ _ d3
 have q1 : w8.frozen? ⟨g + 1, 1, none⟩ = false := frozen_of_row _ _ _ _ _ d3
 have q3 : w8.frozen? ⟨g + 1 + 1, 0, none⟩ = false := frozen_of_row _ _ _ _ _ d4
 clear H_d3 H_d4 H_fa
 have H_d3 := hid d3; have H_d4 := hid d4; have H_fa := hid fa; have H_f8 := hid f8; clear d3 d4 fa f8
 go_wp2_with (fail)
 refine leaves_cons (f := 68) (args := #[.pointer (some ⟨g + 1, 0, none⟩), .pointer (some ⟨g + 1 + 1, 0, none⟩)]) (by simp) (by simp [go_sem]) ?_
 refine (DecFloor1_idle _ _ _).mono ?_
 rintro e u' w'' ⟨rfl, rfl, rfl⟩
 refine ⟨.tuple #[.agg #[.string tr, .int .i64 er], .int .i64 0], results_cell_cell rfl _ _ (g + 1) 23 #[.string tr, .int .i64 er] (0, 0) _ (g + 1 + 1) _ rfl rfl ?_ Tryz.underlying23 rfl (by kernel_rfl) ?_, ?_⟩
 · rw [row_far (by omega)]; exact row_set (row_set H_d3.out)
 · have hcell : (((w8.setCell ⟨g + 1, 0, none⟩ (.string tr)).setCell ⟨g + 1, 1, none⟩ (.int .i64 er)).setCell ⟨g + 1 + 1, 0, none⟩ (.int .i64 0)).cell? ⟨g + 1 + 1, 0, none⟩ = some (.int .i64 0) :=
    cell?_setCell_eq rfl (by rw [far2 (by omega) p3]; rfl)
   simp [loadVar, go_sem, hcell]
 · have hgw := H_hg.out
   exact ⟨rfl, ((H_fa.out.setCell (p := ⟨g + 1, 0, none⟩) (fun h => by change g + 1 < w.heap.size at h; omega) _).setCell (p := ⟨g + 1, 1, none⟩) (fun h => by change g + 1 < w.heap.size at h; omega) _).setCell (p := ⟨g + 1 + 1, 0, none⟩) (fun h => by change g + 1 + 1 < w.heap.size at h; omega) _⟩

theorem DecCeil1_idle (p q : Addr) (w : World) :
 CallsD Tryz.prog 70 #[.pointer (some p), .pointer (some q)] .returning w fun e u' w' => e = .returned (.tuple #[]) ∧ u' = .returning ∧ w' = w := by
 refine callsD_of_wpS Tryz.func70 rfl fun c₀ cs hu => ?_
 apply wpS_seq
 apply wpS_region
 simp [wpOpsS, go_sem, recoverD, hu, Tryz.ntmps70, Exit.thenS]
 refine wpS_cond (t := false) (by simp [Act.eval, Array.replicate]) ?_
 simp only [Bool.false_eq_true, if_false]
 refine wpS_of_wp (wp_skip ?_)
 cases c₀
 simp_all [bodyPostS, results, Tryz.results70]

set_option maxRecDepth 20000 in
set_option maxHeartbeats 4000000 in
theorem DecCeil_ok (z zr e er : Int) (p : Nat) (w : World) (hz : (wdig z).length ≤ 300) (he : -400 ≤ e ∧ e ≤ 400) (her : -2147483648 ≤ er ∧ er ≤ 2147483647)
 (hp : p ≤ 600) (hzr : zr.natAbs < 10 ^ p) (hNG : NG ≤ w.heap.size)
 (hm : ∀ b1 v1 W, Fresh w W → ZI W b1 v1 z → Calls Tryz.prog 71 #[sd b1 e] W (fun r w' => ∃ b v, r = .returned (sd b er) ∧ ZI w' b v zr ∧ Fresh W w')) :
 Calls Tryz.prog 28 #[dd z e] w (fun r w' => r = .returned (.tuple #[dd zr er, .int .i64 0]) ∧ Fresh w w') := by
 have hmf : ∀ (fn : Fn) (first cap : Array Value) (w : World), (Instr.makeFunc fn first cap).run Tryz.prog w = .ok (.func fn first cap) w := fun _ _ _ _ => rfl
 have hm1 := fun W (hW : Fresh w W) => made_any z e W hz he (Nat.le_trans hNG hW.size)
 have hdc := fun b v W (hx : ZI W b v zr) => dec_any b v zr er p W her hx hp hzr
 unfold dd
 generalize bstr (wdig z) = t1 at *
 generalize bstr (wdig zr) = tr at *
 clear hz he her hzr hNG hp
 have H_hm := hid hm; have H_hm1 := hid hm1; have H_hdc := hid hdc; clear hm hm1 hdc
 go_enter_defers Tryz.func28, Tryz.ntmps28
 go_wp2_with (fail)
 obtain ⟨g, hg⟩ : ∃ g, g = w.heap.size := ⟨_, rfl⟩
 have bx := boxes3 w #[.string t1, .int .i64 e] #[.string ⟨#[]⟩, .int .i64 0] #[.int .i64 0] 23 23 3 g hg
 have H_bx := hid bx; clear bx
 generalize hw1 : ((w.alloc _).alloc _).alloc _ = w1
 rw [← hg]
 obtain ⟨d1, d3, d4, fa, -⟩ := H_bx.out w1 hw1
 have H_d1 := hid d1; have H_d3 := hid d3; have H_d4 := hid d4; have H_fa := hid fa; have H_hw1 := hid hw1; have H_hg := hid hg; clear d1 d3 d4 fa hw1 hg
 refine (H_hm1.out _ H_fa.out).mono ?_
 rintro e w2 ⟨b1, v1, rfl, y1, -, -, f2⟩
 have d3 := row_fresh H_d3.out f2
 have d4 := row_fresh H_d4.out f2
 have fa := fresh_trans H_fa.out f2
 obtain ⟨h1, hh1⟩ : ∃ h, h = w2.heap.size := ⟨_, rfl⟩
 clear H_d1 H_d3 H_d4 H_fa
 have H_d3 := hid d3; have H_d4 := hid d4; have H_fa := hid fa; have H_f2 := hid f2; have H_hh1 := hid hh1; have H_y1 := hid y1; clear d3 d4 fa f2 hh1 y1
 go_wp2_with (fail)
 generalize hw3 : w2.alloc _ = w3
 have f3 : Fresh w2 w3 := by rw [← hw3]; exact (Keep.refl _ _).alloc _
 rw [← H_hh1.out]
 have d3 := row_fresh H_d3.out f3
 have d4 := row_fresh H_d4.out f3
 have y1 := H_y1.out.fresh f3
 have fa := fresh_trans H_fa.out f3
 have r1 : w3.heap[h1]? = some (.cells #[.pointer (some ⟨b1, 0, none⟩), .int .i32 e] 61 (0, 0)) := by rw [← hw3, H_hh1.out]; exact heap_alloc_new w2 _
 have ak0 := row_cell r1 0
 have ak1 := row_cell r1 1
 simp at ak0 ak1
 clear H_d3 H_d4 H_fa H_y1
 have H_d3 := hid d3; have H_d4 := hid d4; have H_fa := hid fa; have H_f3 := hid f3; have H_hw3 := hid hw3; have H_y1 := hid y1; have H_r1 := hid r1; clear d3 d4 fa f3 hw3 y1 r1
 refine (H_hm.out _ _ _ H_fa.out H_y1.out).mono ?_
 rintro e w6 ⟨b, v, rfl, y, f6⟩
 have d3 := row_fresh H_d3.out f6
 have d4 := row_fresh H_d4.out f6
 have fa := fresh_trans H_fa.out f6
 clear H_d3 H_d4 H_fa ak0 ak1
 have H_d3 := hid d3; have H_d4 := hid d4; have H_fa := hid fa; have H_f6 := hid f6; have H_y := hid y; clear d3 d4 fa f6 y
 go_wp2_with (fail)
 refine (H_hdc.out _ _ _ H_y.out).mono ?_
 rintro e w8 ⟨rfl, f8⟩
 have d3 := row_fresh H_d3.out f8
 have d4 := row_fresh H_d4.out f8
 have fa := fresh_trans H_fa.out f8
 have p0 := row_cell d3 0
 have p1 := row_cell d3 1
 have p3 := row_cell d4 0
 simp at p0 p1 p3
 have q0 : w8.frozen? ⟨g + 1, 0, none⟩ = false := frozen_of_row _ _ _ _ _ d3
 have q1 : w8.frozen? ⟨g + 1, 1, none⟩ = false := frozen_of_row _ _ _ _ _ d3
 have q3 : w8.frozen? ⟨g + 1 + 1, 0, none⟩ = false := frozen_of_row _ _ _ _ _ d4
 clear H_d3 H_d4 H_fa
 have H_d3 := hid d3; have H_d4 := hid d4; have H_fa := hid fa; have H_f8 := hid f8; clear d3 d4 fa f8
 go_wp2_with (fail)
 refine leaves_cons (f := 70) (args := #[.pointer (some ⟨g + 1, 0, none⟩), .pointer (some ⟨g + 1 + 1, 0, none⟩)]) (by simp) (by simp [go_sem]) ?_
 refine (DecCeil1_idle _ _ _).mono ?_
 rintro e u' w'' ⟨rfl, rfl, rfl⟩
 refine ⟨.tuple #[.agg #[.string tr, .int .i64 er], .int .i64 0], results_cell_cell rfl _ _ (g + 1) 23 #[.string tr, .int .i64 er] (0, 0) _ (g + 1 + 1) _ rfl rfl ?_ Tryz.underlying23 rfl (by kernel_rfl) ?_, ?_⟩
 · rw [row_far (by omega)]; exact row_set (row_set H_d3.out)
 · have hcell : (((w8.setCell ⟨g + 1, 0, none⟩ (.string tr)).setCell ⟨g + 1, 1, none⟩ (.int .i64 er)).setCell ⟨g + 1 + 1, 0, none⟩ (.int .i64 0)).cell? ⟨g + 1 + 1, 0, none⟩ = some (.int .i64 0) :=
    cell?_setCell_eq rfl (by rw [far2 (by omega) p3]; rfl)
   simp [loadVar, go_sem, hcell]
 · have hgw := H_hg.out
   exact ⟨rfl, ((H_fa.out.setCell (p := ⟨g + 1, 0, none⟩) (fun h => by change g + 1 < w.heap.size at h; omega) _).setCell (p := ⟨g + 1, 1, none⟩) (fun h => by change g + 1 < w.heap.size at h; omega) _).setCell (p := ⟨g + 1 + 1, 0, none⟩) (fun h => by change g + 1 + 1 < w.heap.size at h; omega) _⟩







theorem wpow7_of {z : Int} (h : z.natAbs < 10 ^ 60) : z.natAbs < wpow 7 := Nat.lt_of_lt_of_le h (by unfold wpow; decide)

theorem wpow30_of {z : Int} (h : z.natAbs < 10 ^ 60) : z.natAbs < wpow 30 := Nat.lt_of_lt_of_le (wpow7_of h) (wpow_mono (by omega))



theorem fd_law {z e : Int} (he : e < 0) : adZ (fun b => b) z e 0 = fdZ z ((10 ^ (-e).toNat : Nat) : Int) := by
 unfold adZ fdZ
 rw [if_neg (by omega), show (0 - e).toNat = (-e).toNat by omega]
 have h := tmod_sgn z (10 ^ (-e).toNat)
 generalize ((10 ^ (-e).toNat : Nat) : Int) = P at *
 generalize z.natAbs % 10 ^ (-e).toNat = r at *
 generalize z.tdiv P = A at *
 rw [h]
 unfold sgnN
 by_cases hz : z < 0
 · simp only [if_pos hz, decide_eq_true hz]
   by_cases hr : r = 0
   · subst hr; simp
   · rw [if_neg (by omega), if_true, if_pos (by omega)]; omega
 · simp only [if_neg hz, decide_eq_false hz]
   by_cases hr : r = 0
   · subst hr; simp
   · rw [if_neg (by omega), if_neg (by simp), if_neg (by omega)]; omega

theorem fmZ_zero {x y : Int} (hy : 0 < y) : fmZ x y = 0 ↔ x.tmod y = 0 := by
 unfold fmZ
 have h1 : (x.tmod y).natAbs < y.natAbs := by rw [tmod_abs]; exact Nat.mod_lt _ (by omega)
 split <;> omega

theorem cd_law {z e : Int} (he : e < 0) : adZ (fun b => !b) z e 0 = fdZ z ((10 ^ (-e).toNat : Nat) : Int) + (if fmZ z ((10 ^ (-e).toNat : Nat) : Int) = 0 then 0 else 1) := by
 have hm := fmZ_zero (x := z) (ten_posI (-e).toNat)
 simp only [hm]
 unfold adZ fdZ
 rw [if_neg (by omega), show (0 - e).toNat = (-e).toNat by omega]
 have h := tmod_sgn z (10 ^ (-e).toNat)
 clear hm
 generalize ((10 ^ (-e).toNat : Nat) : Int) = P at *
 generalize z.natAbs % 10 ^ (-e).toNat = r at *
 generalize z.tdiv P = A at *
 rw [h]
 unfold sgnN
 by_cases hz : z < 0
 · simp only [if_pos hz, decide_eq_true hz]
   by_cases hr : r = 0
   · subst hr; simp
   · rw [if_neg (by omega), if_neg (by simp), if_pos (by omega), if_neg (by omega)]; omega
 · simp only [if_neg hz, decide_eq_false hz]
   by_cases hr : r = 0
   · subst hr; simp
   · rw [if_neg (by omega), if_pos (by simp), if_neg (by omega), if_neg (by omega)]; omega

theorem adZ_lt {f : Bool → Bool} {z e n : Int} (hz : z.natAbs < 10 ^ 60) (h : e - n ≤ 160) : (adZ f z e n).natAbs < 10 ^ (220 + 1) := by
 rw [← ad_law]
 exact rd_lt (scaledP_lt hz (by omega))

theorem Ceil_lt (b : Nat) (v : Value) (z e : Int) (n : Nat) (w : World) (hG : Glob w) (hz : z.natAbs < wpow 38) (hx : ZI w b v z) (hn : e = -(n : Int)) (hn0 : 0 < n) (hn1 : n ≤ 255) :
 Calls Tryz.prog 71 #[sd b e] w (fun r w' => ∃ b' v', r = .returned (sd b' 0) ∧ ZI w' b' v' (fdZ z ((10 ^ n : Nat) : Int) + (if fmZ z ((10 ^ n : Nat) : Int) = 0 then 0 else 1)) ∧ Fresh w w') := by
 by_cases h : fmZ z ((10 ^ n : Nat) : Int) = 0
 · rw [if_pos h, Int.add_zero]; exact Ceil_ex b v z e n w hG hz hx hn hn0 hn1 h
 · rw [if_neg h]; exact Ceil_up b v z e n w hG hz hx hn hn0 hn1 h

theorem FnDecFloor_facts (z e : Int) (hz : z.natAbs < 10 ^ 60) (he : -60 ≤ e ∧ e ≤ 60) : ∃ zr er q zs es qs : Int,
 (∀ W, Glob W → Calls Tryz.prog 27 #[.agg #[.string (bstr (wdig z)), .int .i64 e]] W (fun r w' => r = .returned (.tuple #[.agg #[.string (bstr (wdig zr)), .int .i64 er], .int .i64 0]) ∧ Fresh W w')) ∧
 (∀ W, Glob W → Calls Tryz.prog 28 #[.agg #[.string (bstr (wdig z)), .int .i64 e]] W (fun r w' => r = .returned (.tuple #[.agg #[.string (bstr (wdig zs)), .int .i64 es], .int .i64 0]) ∧ Fresh W w')) ∧
 (∀ x W, SFr W x (dnum z e) (dden e) → Calls Tryz.prog 17 #[x, .int .i64 0, .int .i64 2] W (RdIRet W q 0)) ∧
 (∀ x W, RdI W x q 0 → Calls Tryz.prog 18 #[x] W (FRet W (dnum q 0) (dden 0))) ∧
 (∀ x W, SFr W x (dnum q 0) (dden 0) → Calls Tryz.prog 16 #[.agg #[.string (bstr (wdig zr)), .int .i64 er], x] W (fun r w' => r = .returned (.bool true) ∧ Fresh W w')) ∧
 (∀ x W, SFr W x (dnum z e) (dden e) → Calls Tryz.prog 17 #[x, .int .i64 0, .int .i64 3] W (RdIRet W qs 0)) ∧
 (∀ x W, RdI W x qs 0 → Calls Tryz.prog 18 #[x] W (FRet W (dnum qs 0) (dden 0))) ∧
 (∀ x W, SFr W x (dnum qs 0) (dden 0) → Calls Tryz.prog 16 #[.agg #[.string (bstr (wdig zs)), .int .i64 es], x] W (fun r w' => r = .returned (.bool true) ∧ Fresh W w')) := by
 have hq1 := adZ_lt (f := fun b => b) (z := z) (e := e) (n := 0) hz (by omega)
 have hq2 := adZ_lt (f := fun b => !b) (z := z) (e := e) (n := 0) hz (by omega)
 have hw := wpow30_of hz
 have hw38 : z.natAbs < wpow 38 := Nat.lt_of_lt_of_le hw (wpow_mono (by omega))
 have hr1 : ∀ x W, SFr W x (dnum z e) (dden e) → Calls Tryz.prog 17 #[x, .int .i64 0, .int .i64 2] W (RdIRet W (adZ (fun b => b) z e 0) 0) := by
  intro x W hx
  have := RoundD_any 2 (fun ng _ _ => (fun b => b) ng) rounds_fl x z e 0 W hx hz he (by omega)
  rw [show -(0 : Int) = 0 from rfl, ad_law (fun b => b)] at this
  exact this
 have hr2 : ∀ x W, SFr W x (dnum z e) (dden e) → Calls Tryz.prog 17 #[x, .int .i64 0, .int .i64 3] W (RdIRet W (adZ (fun b => !b) z e 0) 0) := by
  intro x W hx
  have := RoundD_any 3 (fun ng _ _ => (fun b => !b) ng) rounds_ce x z e 0 W hx hz he (by omega)
  rw [show -(0 : Int) = 0 from rfl, ad_law (fun b => !b)] at this
  exact this
 by_cases h : 0 ≤ e
 · have hs : ∀ f, adZ f z e 0 = rsZ z e 0 := fun f => by unfold adZ; rw [if_pos h]
   have hzP : z.natAbs < 10 ^ (220 + 1) := ltP hz (by omega)
   have hfr := rsZ_frac (z := z) h
   rw [hs] at hq1 hq2 hr1 hr2
   obtain ⟨a1, a2⟩ := says_tail (220 + 1) (by omega) (by omega) z e (rsZ z e 0) 0 hzP (by omega) hq1 (by omega) hfr
   refine ⟨z, e, _, z, e, _, fun W hW => ?_, fun W hW => ?_, hr1, a1, a2, hr2, a1, a2⟩
   · exact DecFloor_ok z z e e 60 W (Nat.le_trans (wdig_len_le hz (by omega)) (by omega)) (by omega) (by omega) (by omega) hz hW.1 (fun b v W' hW' hx => (Floor_as b v z e W' hx h).mono fun r w' k => ⟨b, v, k⟩)
   · exact DecCeil_ok z z e e 60 W (Nat.le_trans (wdig_len_le hz (by omega)) (by omega)) (by omega) (by omega) (by omega) hz hW.1 (fun b v W' hW' hx => (Ceil_as b v z e W' hx h).mono fun r w' k => ⟨b, v, k⟩)
 · obtain ⟨a1, a2⟩ := says_tail (220 + 1) (by omega) (by omega) (adZ (fun b => b) z e 0) 0 _ 0 hq1 (by omega) hq1 (by omega) rfl
   obtain ⟨a3, a4⟩ := says_tail (220 + 1) (by omega) (by omega) (adZ (fun b => !b) z e 0) 0 _ 0 hq2 (by omega) hq2 (by omega) rfl
   refine ⟨_, 0, _, _, 0, _, fun W hW => ?_, fun W hW => ?_, hr1, a1, a2, hr2, a3, a4⟩
   · refine DecFloor_ok z _ e 0 (220 + 1) W (Nat.le_trans (wdig_len_le hz (by omega)) (by omega)) (by omega) (by omega) (by omega) hq1 hW.1 (fun b v W' hW' hx => ?_)
     rw [fd_law (by omega)]
     exact Floor_lt b v z e (-e).toNat W' (hW.fresh hW') hw38 hx (by omega) (by omega) (by omega)
   · refine DecCeil_ok z _ e 0 (220 + 1) W (Nat.le_trans (wdig_len_le hz (by omega)) (by omega)) (by omega) (by omega) (by omega) hq2 hW.1 (fun b v W' hW' hx => ?_)
     rw [cd_law (by omega)]
     exact Ceil_lt b v z e (-e).toNat W' (hW.fresh hW') hw38 hx (by omega) (by omega) (by omega)

end Go.Proofs.YtllencgncinphaaGreatDoor
