/- The contracts of impl.Dec.. over one decimal. Printed by gen_id1.py IdR Rescale:ZzRescale:n Truncate:Decimal.Truncate:n. -/
import Derived.Test.YtllencgncinphaaGreatDoorTie
import Derived.Test.YtllencgncinphaaGreatDoorCards
import Derived.SevenTiedAt
import Derived.Test.YtllencgncinphaaGreatDoorK7
import Derived.Test.YtllencgncinphaaGreatDoorK9
import Derived.Test.YtllencgncinphaaGreatDoorK13
import Derived.Test.YtllencgncinphaaGreatDoorK19
import Derived.Test.YtllencgncinphaaGreatDoorK20
import Derived.Test.YtllencgncinphaaGreatDoorK39
namespace Go.Proofs.YtllencgncinphaaGreatDoor
open Go.RowKit

theorem DecRescale1_idle (p q : Addr) (w : World) :
    CallsD Tryz.prog 41 #[.pointer (some p), .pointer (some q)] .returning w fun e u' w' => e = .returned (.tuple #[]) ∧ u' = .returning ∧ w' = w := by
  refine callsD_of_wpS Tryz.func41 rfl fun c₀ cs hu => ?_
  apply wpS_seq
  apply wpS_region
  simp [wpOpsS, go_sem, recoverD, hu, Tryz.ntmps41, Exit.thenS]
  refine wpS_cond (t := false) (by simp [Act.eval, Array.replicate]) ?_
  simp only [Bool.false_eq_true, if_false]
  refine wpS_of_wp (wp_skip ?_)
  cases c₀
  simp_all [bodyPostS, results, Tryz.results41]

set_option maxRecDepth 20000 in
set_option maxHeartbeats 4000000 in
theorem DecRescale_ok (z zr e er n : Int) (p : Nat) (w : World) (hz : (wdig z).length ≤ 300) (he : -400 ≤ e ∧ e ≤ 400) (hn : -400 ≤ n ∧ n ≤ 400) (her : -2147483648 ≤ er ∧ er ≤ 2147483647)
    (hp : p ≤ 600) (hzr : zr.natAbs < 10 ^ p) (hNG : NG ≤ w.heap.size)
    (hm : ∀ b1 v1 W, Fresh w W → ZI W b1 v1 z → Calls Tryz.prog 45 #[sd b1 e, .int .i32 n] W (fun r w' => ∃ b v, r = .returned (sd b er) ∧ ZI w' b v zr ∧ Fresh W w')) :
    Calls Tryz.prog 15 #[dd z e, .int .i64 n] w (fun r w' => r = .returned (.tuple #[dd zr er, .int .i64 0]) ∧ Fresh w w') := by
  have hmf : ∀ (fn : Fn) (first cap : Array Value) (w : World), (Instr.makeFunc fn first cap).run Tryz.prog w = .ok (.func fn first cap) w := fun _ _ _ _ => rfl
  have hm1 := fun W (hW : Fresh w W) => made_any z e W hz he (Nat.le_trans hNG hW.size)
  have hpl := fun W => places_any n W hn
  have tn : IntKind.i32.wrap n = n := by rw [IntKind.wrap_i32]; omega
  have hdc := fun b v W (hx : ZI W b v zr) => dec_any b v zr er p W her hx hp hzr
  unfold dd
  generalize bstr (wdig z) = t1 at *
  generalize bstr (wdig zr) = tr at *
  clear hz he her hzr hNG hp hn
  have H_hm := Lib.hid hm; clear hm
  have H_hm1 := Lib.hid hm1; clear hm1
  have H_hdc := Lib.hid hdc; clear hdc
  have H_hpl := Lib.hid hpl; clear hpl
  go_enter_defers Tryz.func15, Tryz.ntmps15
  go_wp2_with (fail)
  obtain ⟨g, hg⟩ : ∃ g, g = w.heap.size := ⟨_, rfl⟩
  have bx := boxes3 w #[.string t1, .int .i64 e] #[.string ⟨#[]⟩, .int .i64 0] #[.int .i64 0] 23 23 3 g hg
  have H_bx := Lib.hid bx; clear bx
  generalize hw1 : ((w.alloc _).alloc _).alloc _ = w1
  rw [← hg]
  obtain ⟨d1, d3, d4, fa, -⟩ := H_bx.out w1 hw1
  have H_d1 := Lib.hid d1; clear d1
  have H_d3 := Lib.hid d3; clear d3
  have H_d4 := Lib.hid d4; clear d4
  have H_fa := Lib.hid fa; clear fa
  have H_hw1 := Lib.hid hw1; clear hw1
  have H_hg := Lib.hid hg; clear hg
  refine (H_hm1.out _ H_fa.out).mono ?_
  rintro e w2 ⟨b1, v1, rfl, y1, -, -, f2⟩
  have d3 := row_fresh H_d3.out f2
  have d4 := row_fresh H_d4.out f2
  have fa := fresh_trans H_fa.out f2
  obtain ⟨h1, hh1⟩ : ∃ h, h = w2.heap.size := ⟨_, rfl⟩
  clear H_d1 H_d3 H_d4 H_fa
  have H_d3 := Lib.hid d3; clear d3
  have H_d4 := Lib.hid d4; clear d4
  have H_fa := Lib.hid fa; clear fa
  have H_f2 := Lib.hid f2; clear f2
  have H_hh1 := Lib.hid hh1; clear hh1
  have H_y1 := Lib.hid y1; clear y1
  go_wp2_with (fail)
  generalize hw3 : w2.alloc _ = w3
  have f3 : Fresh w2 w3 := by rw [← hw3]; exact (Keep.refl _ _).alloc _
  rw [← H_hh1.out]
  have d3 := row_fresh H_d3.out f3
  have d4 := row_fresh H_d4.out f3
  have y1 := H_y1.out.fresh f3
  have fa := fresh_trans H_fa.out f3
  have r1 : w3.heap[h1]? = some (.cells #[.pointer (some ⟨b1, 0, none⟩), .int .i32 e] 61 (0, 0)) := by rw [← hw3, H_hh1.out]; exact heap_alloc_new w2 _
  have ak0 := row_cell r1 0
  have ak1 := row_cell r1 1
  simp at ak0 ak1
  clear H_d3 H_d4 H_fa H_y1
  have H_d3 := Lib.hid d3; clear d3
  have H_d4 := Lib.hid d4; clear d4
  have H_fa := Lib.hid fa; clear fa
  have H_f3 := Lib.hid f3; clear f3
  have H_hw3 := Lib.hid hw3; clear hw3
  have H_y1 := Lib.hid y1; clear y1
  have H_r1 := Lib.hid r1; clear r1
  go_wp2_with (fail)
  refine (H_hpl.out _).mono ?_
  rintro e w4 ⟨rfl, hsame⟩
  obtain rfl := hsame
  go_wp2_with (fail)
  refine (H_hm.out _ _ _ H_fa.out H_y1.out).mono ?_
  rintro e w6 ⟨b, v, rfl, y, f6⟩
  have d3 := row_fresh H_d3.out f6
  have d4 := row_fresh H_d4.out f6
  have fa := fresh_trans H_fa.out f6
  clear H_d3 H_d4 H_fa ak0 ak1
  have H_d3 := Lib.hid d3; clear d3
  have H_d4 := Lib.hid d4; clear d4
  have H_fa := Lib.hid fa; clear fa
  have H_f6 := Lib.hid f6; clear f6
  have H_y := Lib.hid y; clear y
  go_wp2_with (fail)
  refine (H_hdc.out _ _ _ H_y.out).mono ?_
  rintro e w8 ⟨rfl, f8⟩
  have d3 := row_fresh H_d3.out f8
  have d4 := row_fresh H_d4.out f8
  have fa := fresh_trans H_fa.out f8
  have p0 := row_cell d3 0
  have p1 := row_cell d3 1
  have p3 := row_cell d4 0
  simp at p0 p1 p3
  have q0 : w8.frozen? ⟨g + 1, 0, none⟩ = false := frozen_of_row _ _ _ _ _ d3
  have q1 : w8.frozen? ⟨g + 1, 1, none⟩ = false := frozen_of_row _ _ _ _ _ d3
  have q3 : w8.frozen? ⟨g + 1 + 1, 0, none⟩ = false := frozen_of_row _ _ _ _ _ d4
  clear H_d3 H_d4 H_fa
  have H_d3 := Lib.hid d3; clear d3
  have H_d4 := Lib.hid d4; clear d4
  have H_fa := Lib.hid fa; clear fa
  have H_f8 := Lib.hid f8; clear f8
  go_wp2_with (fail)
  refine leaves_cons (f := 41) (args := #[.pointer (some ⟨g + 1, 0, none⟩), .pointer (some ⟨g + 1 + 1, 0, none⟩)]) (by simp) (by simp [go_sem]) ?_
  refine (DecRescale1_idle _ _ _).mono ?_
  rintro e u' w'' ⟨rfl, rfl, rfl⟩
  refine ⟨.tuple #[.agg #[.string tr, .int .i64 er], .int .i64 0], results_cell_cell rfl _ _ (g + 1) 23 #[.string tr, .int .i64 er] (0, 0) _ (g + 1 + 1) _ rfl rfl ?_ Tryz.underlying23 rfl (by kernel_rfl) ?_, ?_⟩
  · rw [row_far (by omega)]; exact row_set (row_set H_d3.out)
  · have hcell : (((w8.setCell ⟨g + 1, 0, none⟩ (.string tr)).setCell ⟨g + 1, 1, none⟩ (.int .i64 er)).setCell ⟨g + 1 + 1, 0, none⟩ (.int .i64 0)).cell? ⟨g + 1 + 1, 0, none⟩ = some (.int .i64 0) :=
      cell?_setCell_eq rfl (by rw [far2 (by omega) p3]; rfl)
    simp [loadVar, go_sem, hcell]
  · have hgw := H_hg.out
    exact ⟨rfl, ((H_fa.out.setCell (p := ⟨g + 1, 0, none⟩) (fun h => by change g + 1 < w.heap.size at h; omega) _).setCell (p := ⟨g + 1, 1, none⟩) (fun h => by change g + 1 < w.heap.size at h; omega) _).setCell (p := ⟨g + 1 + 1, 0, none⟩) (fun h => by change g + 1 + 1 < w.heap.size at h; omega) _⟩

theorem DecTruncate1_idle (p q : Addr) (w : World) :
    CallsD Tryz.prog 66 #[.pointer (some p), .pointer (some q)] .returning w fun e u' w' => e = .returned (.tuple #[]) ∧ u' = .returning ∧ w' = w := by
  refine callsD_of_wpS Tryz.func66 rfl fun c₀ cs hu => ?_
  apply wpS_seq
  apply wpS_region
  simp [wpOpsS, go_sem, recoverD, hu, Tryz.ntmps66, Exit.thenS]
  refine wpS_cond (t := false) (by simp [Act.eval, Array.replicate]) ?_
  simp only [Bool.false_eq_true, if_false]
  refine wpS_of_wp (wp_skip ?_)
  cases c₀
  simp_all [bodyPostS, results, Tryz.results66]

set_option maxRecDepth 20000 in
set_option maxHeartbeats 4000000 in
theorem DecTruncate_ok (z zr e er n : Int) (p : Nat) (w : World) (hz : (wdig z).length ≤ 300) (he : -400 ≤ e ∧ e ≤ 400) (hn : -400 ≤ n ∧ n ≤ 400) (her : -2147483648 ≤ er ∧ er ≤ 2147483647)
    (hp : p ≤ 600) (hzr : zr.natAbs < 10 ^ p) (hNG : NG ≤ w.heap.size)
    (hm : ∀ b1 v1 W, Fresh w W → ZI W b1 v1 z → Calls Tryz.prog 67 #[sd b1 e, .int .i32 n] W (fun r w' => ∃ b v, r = .returned (sd b er) ∧ ZI w' b v zr ∧ Fresh W w')) :
    Calls Tryz.prog 26 #[dd z e, .int .i64 n] w (fun r w' => r = .returned (.tuple #[dd zr er, .int .i64 0]) ∧ Fresh w w') := by
  have hmf : ∀ (fn : Fn) (first cap : Array Value) (w : World), (Instr.makeFunc fn first cap).run Tryz.prog w = .ok (.func fn first cap) w := fun _ _ _ _ => rfl
  have hm1 := fun W (hW : Fresh w W) => made_any z e W hz he (Nat.le_trans hNG hW.size)
  have hpl := fun W => places_any n W hn
  have tn : IntKind.i32.wrap n = n := by rw [IntKind.wrap_i32]; omega
  have hdc := fun b v W (hx : ZI W b v zr) => dec_any b v zr er p W her hx hp hzr
  unfold dd
  generalize bstr (wdig z) = t1 at *
  generalize bstr (wdig zr) = tr at *
  clear hz he her hzr hNG hp hn
  have H_hm := Lib.hid hm; clear hm
  have H_hm1 := Lib.hid hm1; clear hm1
  have H_hdc := Lib.hid hdc; clear hdc
  have H_hpl := Lib.hid hpl; clear hpl
  go_enter_defers Tryz.func26, Tryz.ntmps26
  go_wp2_with (fail)
  obtain ⟨g, hg⟩ : ∃ g, g = w.heap.size := ⟨_, rfl⟩
  have bx := boxes3 w #[.string t1, .int .i64 e] #[.string ⟨#[]⟩, .int .i64 0] #[.int .i64 0] 23 23 3 g hg
  have H_bx := Lib.hid bx; clear bx
  generalize hw1 : ((w.alloc _).alloc _).alloc _ = w1
  rw [← hg]
  obtain ⟨d1, d3, d4, fa, -⟩ := H_bx.out w1 hw1
  have H_d1 := Lib.hid d1; clear d1
  have H_d3 := Lib.hid d3; clear d3
  have H_d4 := Lib.hid d4; clear d4
  have H_fa := Lib.hid fa; clear fa
  have H_hw1 := Lib.hid hw1; clear hw1
  have H_hg := Lib.hid hg; clear hg
  refine (H_hm1.out _ H_fa.out).mono ?_
  rintro e w2 ⟨b1, v1, rfl, y1, -, -, f2⟩
  have d3 := row_fresh H_d3.out f2
  have d4 := row_fresh H_d4.out f2
  have fa := fresh_trans H_fa.out f2
  obtain ⟨h1, hh1⟩ : ∃ h, h = w2.heap.size := ⟨_, rfl⟩
  clear H_d1 H_d3 H_d4 H_fa
  have H_d3 := Lib.hid d3; clear d3
  have H_d4 := Lib.hid d4; clear d4
  have H_fa := Lib.hid fa; clear fa
  have H_f2 := Lib.hid f2; clear f2
  have H_hh1 := Lib.hid hh1; clear hh1
  have H_y1 := Lib.hid y1; clear y1
  go_wp2_with (fail)
  generalize hw3 : w2.alloc _ = w3
  have f3 : Fresh w2 w3 := by rw [← hw3]; exact (Keep.refl _ _).alloc _
  rw [← H_hh1.out]
  have d3 := row_fresh H_d3.out f3
  have d4 := row_fresh H_d4.out f3
  have y1 := H_y1.out.fresh f3
  have fa := fresh_trans H_fa.out f3
  have r1 : w3.heap[h1]? = some (.cells #[.pointer (some ⟨b1, 0, none⟩), .int .i32 e] 61 (0, 0)) := by rw [← hw3, H_hh1.out]; exact heap_alloc_new w2 _
  have ak0 := row_cell r1 0
  have ak1 := row_cell r1 1
  simp at ak0 ak1
  clear H_d3 H_d4 H_fa H_y1
  have H_d3 := Lib.hid d3; clear d3
  have H_d4 := Lib.hid d4; clear d4
  have H_fa := Lib.hid fa; clear fa
  have H_f3 := Lib.hid f3; clear f3
  have H_hw3 := Lib.hid hw3; clear hw3
  have H_y1 := Lib.hid y1; clear y1
  have H_r1 := Lib.hid r1; clear r1
  go_wp2_with (fail)
  refine (H_hpl.out _).mono ?_
  rintro e w4 ⟨rfl, hsame⟩
  obtain rfl := hsame
  go_wp2_with (fail)
  refine (H_hm.out _ _ _ H_fa.out H_y1.out).mono ?_
  rintro e w6 ⟨b, v, rfl, y, f6⟩
  have d3 := row_fresh H_d3.out f6
  have d4 := row_fresh H_d4.out f6
  have fa := fresh_trans H_fa.out f6
  clear H_d3 H_d4 H_fa ak0 ak1
  have H_d3 := Lib.hid d3; clear d3
  have H_d4 := Lib.hid d4; clear d4
  have H_fa := Lib.hid fa; clear fa
  have H_f6 := Lib.hid f6; clear f6
  have H_y := Lib.hid y; clear y
  go_wp2_with (fail)
  refine (H_hdc.out _ _ _ H_y.out).mono ?_
  rintro e w8 ⟨rfl, f8⟩
  have d3 := row_fresh H_d3.out f8
  have d4 := row_fresh H_d4.out f8
  have fa := fresh_trans H_fa.out f8
  have p0 := row_cell d3 0
  have p1 := row_cell d3 1
  have p3 := row_cell d4 0
  simp at p0 p1 p3
  have q0 : w8.frozen? ⟨g + 1, 0, none⟩ = false := frozen_of_row _ _ _ _ _ d3
  have q1 : w8.frozen? ⟨g + 1, 1, none⟩ = false := frozen_of_row _ _ _ _ _ d3
  have q3 : w8.frozen? ⟨g + 1 + 1, 0, none⟩ = false := frozen_of_row _ _ _ _ _ d4
  clear H_d3 H_d4 H_fa
  have H_d3 := Lib.hid d3; clear d3
  have H_d4 := Lib.hid d4; clear d4
  have H_fa := Lib.hid fa; clear fa
  have H_f8 := Lib.hid f8; clear f8
  go_wp2_with (fail)
  refine leaves_cons (f := 66) (args := #[.pointer (some ⟨g + 1, 0, none⟩), .pointer (some ⟨g + 1 + 1, 0, none⟩)]) (by simp) (by simp [go_sem]) ?_
  refine (DecTruncate1_idle _ _ _).mono ?_
  rintro e u' w'' ⟨rfl, rfl, rfl⟩
  refine ⟨.tuple #[.agg #[.string tr, .int .i64 er], .int .i64 0], results_cell_cell rfl _ _ (g + 1) 23 #[.string tr, .int .i64 er] (0, 0) _ (g + 1 + 1) _ rfl rfl ?_ Tryz.underlying23 rfl (by kernel_rfl) ?_, ?_⟩
  · rw [row_far (by omega)]; exact row_set (row_set H_d3.out)
  · have hcell : (((w8.setCell ⟨g + 1, 0, none⟩ (.string tr)).setCell ⟨g + 1, 1, none⟩ (.int .i64 er)).setCell ⟨g + 1 + 1, 0, none⟩ (.int .i64 0)).cell? ⟨g + 1 + 1, 0, none⟩ = some (.int .i64 0) :=
      cell?_setCell_eq rfl (by rw [far2 (by omega) p3]; rfl)
    simp [loadVar, go_sem, hcell]
  · have hgw := H_hg.out
    exact ⟨rfl, ((H_fa.out.setCell (p := ⟨g + 1, 0, none⟩) (fun h => by change g + 1 < w.heap.size at h; omega) _).setCell (p := ⟨g + 1, 1, none⟩) (fun h => by change g + 1 < w.heap.size at h; omega) _).setCell (p := ⟨g + 1 + 1, 0, none⟩) (fun h => by change g + 1 + 1 < w.heap.size at h; omega) _⟩

end Go.Proofs.YtllencgncinphaaGreatDoor

/- The contract of impl.DecSub. Printed by gen_id.py Sub. -/
namespace Go.Proofs.YtllencgncinphaaGreatDoor
open Go.RowKit

end Go.Proofs.YtllencgncinphaaGreatDoor

/- shopspring: Decimal.Add and Decimal.Sub: the three ways joined. Printed by gen_dj.py. -/
namespace Go.Proofs.YtllencgncinphaaGreatDoor
open Go.RowKit

end Go.Proofs.YtllencgncinphaaGreatDoor

/- impl.DecAdd and impl.DecSub, of two decimals of at most 60 digits. Printed by hand. -/
namespace Go.Proofs.YtllencgncinphaaGreatDoor
open Go.RowKit

theorem wpow7_of {z : Int} (h : z.natAbs < 10 ^ 60) : z.natAbs < wpow 7 := Nat.lt_of_lt_of_le h (by unfold wpow; decide)

end Go.Proofs.YtllencgncinphaaGreatDoor

/- shopspring: ZzRescale, Truncate; the thin package's Rescale and Truncate of a decimal of at most 60 digits. Printed by gen_tr.py. -/
namespace Go.Proofs.YtllencgncinphaaGreatDoor
open Go.RowKit

set_option maxRecDepth 20000 in
set_option maxHeartbeats 2000000 in
theorem ZzRescale_any (b : Nat) (v : Value) (z e n : Int) (w : World) (hG : Glob w) (hz : z.natAbs < wpow 30) (hx : ZI w b v z) (he : -60 ≤ e ∧ e ≤ 60) (hn : -120 ≤ n ∧ n ≤ 120) :
    Calls Tryz.prog 45 #[sd b e, .int .i32 n] w (fun r w' => ∃ b' v', r = .returned (sd b' n) ∧ ZI w' b' v' (rsZ z e n) ∧ Fresh w w') := by
  have hc := fun W (hW : Fresh w W) => rescale_anyW b v z e n W (hG.fresh hW) hz (hx.fresh hW) (by omega) (by omega) (by omega) (by omega)
  generalize rsZ z e n = zr at *
  obtain ⟨g, hg⟩ : ∃ g, g = w.heap.size := ⟨_, rfl⟩
  have bx := boxes2 w #[.pointer (some ⟨b, 0, none⟩), .int .i32 e] #[.pointer none, .int .i32 0] 61 61 g hg
  have H_bx := Lib.hid bx; clear bx
  have H_hx := Lib.hid hx; clear hx
  have H_hG := Lib.hid hG; clear hG
  have H_hz := Lib.hid hz; clear hz
  have H_hc := Lib.hid hc; clear hc
  go_enter Tryz.func45, Tryz.ntmps45
  go_wp2_with (fail)
  generalize hw1 : (w.alloc _).alloc _ = w1
  rw [← hg]
  obtain ⟨b1, b2, hf⟩ := H_bx.out w1 hw1
  have k0 := row_cell b1 0
  have k1 := row_cell b1 1
  simp at k0 k1
  have H_b1 := Lib.hid b1; clear b1
  have H_b2 := Lib.hid b2; clear b2
  have H_hf := Lib.hid hf; clear hf
  have H_hw1 := Lib.hid hw1; clear hw1
  have H_hg := Lib.hid hg; clear hg
  go_wp2_with (fail)
  refine (H_hc.out _ H_hf.out).mono ?_
  rintro r w4 ⟨b', v', rfl, z4, g4, o4, f4⟩
  have d2 := row_fresh H_b2.out f4
  have p0 := row_cell d2 0
  have p1 := row_cell d2 1
  simp at p0 p1
  have q0 : w4.frozen? ⟨g + 1, 0, none⟩ = false := frozen_of_row _ _ _ _ _ d2
  have q1 : w4.frozen? ⟨g + 1, 1, none⟩ = false := frozen_of_row _ _ _ _ _ d2
  clear k0 k1
  have H_f4 := Lib.hid f4; clear f4
  have H_d2 := Lib.hid d2; clear d2
  have H_z4 := Lib.hid z4; clear z4
  have H_g4 := Lib.hid g4; clear g4
  have H_o4 := Lib.hid o4; clear o4
  go_wp2_with (fail)
  refine bodyPost_ret (results_cell_row rfl _ _ (g + 1) 61 #[.pointer (some ⟨b', 0, none⟩), .int .i32 n] (0, 0) _ rfl (row_set (row_set H_d2.out)) Tryz.underlying61 rfl (by kernel_rfl)) rfl ?_
  have hgw := H_hg.out
  have hlt2 := lt_of_row H_b2.out
  have kk : ∀ u u', Keep (fun k => k = g + 1) w4 ((w4.setCell ⟨g + 1, 0, none⟩ u).setCell ⟨g + 1, 1, none⟩ u') := fun u u' => ((Keep.refl (fun k => k = g + 1) w4).setCell (p := ⟨g + 1, 0, none⟩) (fun _ => rfl) u).setCell (p := ⟨g + 1, 1, none⟩) (fun _ => rfl) u'
  exact ⟨b', v', rfl, H_z4.out.keep (kk _ _) (fun h => by have := H_g4.out; omega) (fun k hk h => by have := H_o4.out k hk; omega),
    ((fresh_trans H_hf.out H_f4.out).setCell (p := ⟨g + 1, 0, none⟩) (fun h => by change g + 1 < w.heap.size at h; omega) _).setCell (p := ⟨g + 1, 1, none⟩) (fun h => by change g + 1 < w.heap.size at h; omega) _⟩

set_option maxRecDepth 20000 in
set_option maxHeartbeats 2000000 in
theorem Truncate_cut (b : Nat) (v : Value) (z e n : Int) (w : World) (hG : Glob w) (hz : z.natAbs < wpow 30) (hx : ZI w b v z) (he : -60 ≤ e ∧ e ≤ 60) (hn : -120 ≤ n ∧ n ≤ 120) (h : e < -n) :
    Calls Tryz.prog 67 #[sd b e, .int .i32 n] w (fun r w' => ∃ b' v', r = .returned (sd b' (-n)) ∧ ZI w' b' v' (rsZ z e (-n)) ∧ Fresh w w') := by
  have hc := fun W (hW : Fresh w W) => rescale_anyW b v z e (-n) W (hG.fresh hW) hz (hx.fresh hW) (by omega) (by omega) (by omega) (by omega)
  generalize rsZ z e (-n) = zr at *
  have t0 : IntKind.i32.wrap (-n) = -n := by rw [IntKind.wrap_i32]; omega
  have t1 : decide (e < -n) = true := by simpa using h
  obtain ⟨g, hg⟩ : ∃ g, g = w.heap.size := ⟨_, rfl⟩
  have bx := boxes2 w #[.pointer (some ⟨b, 0, none⟩), .int .i32 e] #[.pointer none, .int .i32 0] 61 61 g hg
  have H_bx := Lib.hid bx; clear bx
  have H_hx := Lib.hid hx; clear hx
  have H_hG := Lib.hid hG; clear hG
  have H_hz := Lib.hid hz; clear hz
  have H_hc := Lib.hid hc; clear hc
  go_enter Tryz.func67, Tryz.ntmps67
  go_wp2_with (fail)
  generalize hw1 : (w.alloc _).alloc _ = w1
  rw [← hg]
  obtain ⟨b1, b2, hf⟩ := H_bx.out w1 hw1
  have k0 := row_cell b1 0
  have k1 := row_cell b1 1
  simp at k0 k1
  have H_b1 := Lib.hid b1; clear b1
  have H_b2 := Lib.hid b2; clear b2
  have H_hf := Lib.hid hf; clear hf
  have H_hw1 := Lib.hid hw1; clear hw1
  have H_hg := Lib.hid hg; clear hg
  go_wp2_with (fail)
  refine (H_hc.out _ H_hf.out).mono ?_
  rintro r w4 ⟨b', v', rfl, z4, g4, o4, f4⟩
  have d2 := row_fresh H_b2.out f4
  have p0 := row_cell d2 0
  have p1 := row_cell d2 1
  simp at p0 p1
  have q0 : w4.frozen? ⟨g + 1, 0, none⟩ = false := frozen_of_row _ _ _ _ _ d2
  have q1 : w4.frozen? ⟨g + 1, 1, none⟩ = false := frozen_of_row _ _ _ _ _ d2
  clear k0 k1
  have H_f4 := Lib.hid f4; clear f4
  have H_d2 := Lib.hid d2; clear d2
  have H_z4 := Lib.hid z4; clear z4
  have H_g4 := Lib.hid g4; clear g4
  have H_o4 := Lib.hid o4; clear o4
  go_wp2_with (fail)
  refine bodyPost_ret (results_cell_row rfl _ _ (g + 1) 61 #[.pointer (some ⟨b', 0, none⟩), .int .i32 (-n)] (0, 0) _ rfl (row_set (row_set H_d2.out)) Tryz.underlying61 rfl (by kernel_rfl)) rfl ?_
  have hgw := H_hg.out
  have hlt2 := lt_of_row H_b2.out
  have kk : ∀ u u', Keep (fun k => k = g + 1) w4 ((w4.setCell ⟨g + 1, 0, none⟩ u).setCell ⟨g + 1, 1, none⟩ u') := fun u u' => ((Keep.refl (fun k => k = g + 1) w4).setCell (p := ⟨g + 1, 0, none⟩) (fun _ => rfl) u).setCell (p := ⟨g + 1, 1, none⟩) (fun _ => rfl) u'
  exact ⟨b', v', rfl, H_z4.out.keep (kk _ _) (fun h => by have := H_g4.out; omega) (fun k hk h => by have := H_o4.out k hk; omega),
    ((fresh_trans H_hf.out H_f4.out).setCell (p := ⟨g + 1, 0, none⟩) (fun h => by change g + 1 < w.heap.size at h; omega) _).setCell (p := ⟨g + 1, 1, none⟩) (fun h => by change g + 1 < w.heap.size at h; omega) _⟩

set_option maxRecDepth 20000 in
set_option maxHeartbeats 2000000 in
theorem Truncate_as (b : Nat) (v : Value) (z e n : Int) (w : World) (hx : ZI w b v z) (he : -60 ≤ e ∧ e ≤ 60) (hn : -120 ≤ n ∧ n ≤ 120) (h : -n ≤ e) :
    Calls Tryz.prog 67 #[sd b e, .int .i32 n] w (fun r w' => ∃ b' v', r = .returned (sd b' e) ∧ ZI w' b' v' z ∧ Fresh w w') := by
  have t0 : IntKind.i32.wrap (-n) = -n := by rw [IntKind.wrap_i32]; omega
  have t1 : decide (e < -n) = false := by simp; omega
  have t2 : ¬ e < -n := by omega
  obtain ⟨g, hg⟩ : ∃ g, g = w.heap.size := ⟨_, rfl⟩
  have bx := boxes2 w #[.pointer (some ⟨b, 0, none⟩), .int .i32 e] #[.pointer (some ⟨b, 0, none⟩), .int .i32 e] 61 61 g hg
  have H_bx := Lib.hid bx; clear bx
  have H_hx := Lib.hid hx; clear hx
  go_enter Tryz.func67, Tryz.ntmps67
  go_wp2_with (fail)
  generalize hw1 : (w.alloc _).alloc _ = w1
  rw [← hg]
  obtain ⟨b1, b2, hf⟩ := H_bx.out w1 hw1
  refine bodyPost_ret (results_cell_row rfl _ _ (g + 1) 61 #[.pointer (some ⟨b, 0, none⟩), .int .i32 e] (0, 0) _ rfl b2 Tryz.underlying61 rfl (by kernel_rfl)) rfl ?_
  exact ⟨b, rfl, ⟨v, H_hx.out.fresh hf⟩, hf⟩

theorem wpow30_of {z : Int} (h : z.natAbs < 10 ^ 60) : z.natAbs < wpow 30 := Nat.lt_of_lt_of_le (wpow7_of h) (wpow_mono (by omega))

theorem DecRescale_fit (z e n : Int) (w : World) (hG : Glob w) (hz : z.natAbs < 10 ^ 60) (he : -60 ≤ e ∧ e ≤ 60) (hn : -100 ≤ n ∧ n ≤ 100) :
    Calls Tryz.prog 15 #[dd z e, .int .i64 n] w (fun r w' => r = .returned (.tuple #[dd (rsZ z e n) n, .int .i64 0]) ∧ Fresh w w') :=
  DecRescale_ok z _ e n n 220 w (Nat.le_trans (wdig_len_le hz (by omega)) (by omega)) (by omega) (by omega) (by omega) (by omega) (rsZ_lt hz (by omega)) hG.1
    (fun b v W hW hx => ZzRescale_any b v z e n W (hG.fresh hW) (wpow30_of hz) hx he (by omega))

/-- the coefficient and the exponent behind Truncate -/
def trZ (z e n : Int) : Int := if e < -n then rsZ z e (-n) else z
def trE (e n : Int) : Int := if e < -n then -n else e

theorem DecTruncate_fit (z e n : Int) (w : World) (hG : Glob w) (hz : z.natAbs < 10 ^ 60) (he : -60 ≤ e ∧ e ≤ 60) (hn : -100 ≤ n ∧ n ≤ 100) :
    Calls Tryz.prog 26 #[dd z e, .int .i64 n] w (fun r w' => r = .returned (.tuple #[dd (trZ z e n) (trE e n), .int .i64 0]) ∧ Fresh w w') := by
  unfold trZ trE
  by_cases h : e < -n
  · rw [if_pos h, if_pos h]
    exact DecTruncate_ok z _ e _ n 220 w (Nat.le_trans (wdig_len_le hz (by omega)) (by omega)) (by omega) (by omega) (by omega) (by omega) (rsZ_lt hz (by omega)) hG.1
      (fun b v W hW hx => Truncate_cut b v z e n W (hG.fresh hW) (wpow30_of hz) hx he (by omega) h)
  · rw [if_neg h, if_neg h]
    exact DecTruncate_ok z _ e _ n 220 w (Nat.le_trans (wdig_len_le hz (by omega)) (by omega)) (by omega) (by omega) (by omega) (by omega) (Nat.lt_trans hz (Nat.pow_lt_pow_right (by omega) (by omega))) hG.1
      (fun b v W hW hx => Truncate_as b v z e n W hx he (by omega) (by omega))

end Go.Proofs.YtllencgncinphaaGreatDoor

/- The facts of the laws over one decimal: FnDecRescale, FnDecTruncate. -/
namespace Go.Proofs.YtllencgncinphaaGreatDoor
open Go.RowKit

theorem tr_law {neg : Bool} (z e n : Int) : sgnN z (rdW (fun _ _ _ => false) neg (z.natAbs * 10 ^ (e - n).toNat) (10 ^ (n - e).toNat)) = rsZ z e n := by
  rw [rdW_tr, rsZ_sgn]
  by_cases h : e ≤ n
  · rw [if_pos h, show (e - n).toNat = 0 by omega, Nat.pow_zero, Nat.mul_one]
  · rw [if_neg h, show (n - e).toNat = 0 by omega, Nat.pow_zero, Nat.div_one]

theorem FnDecTruncate_facts (z e p : Int) (hz : z.natAbs < 10 ^ 60) (he : -60 ≤ e ∧ e ≤ 60) (hp : -((100 : Nat) : Int) ≤ p ∧ p ≤ ((100 : Nat) : Int)) : ∃ zr er q : Int,
    (∀ W, Glob W → Calls Tryz.prog 26 #[.agg #[.string (bstr (wdig z)), .int .i64 e], .int .i64 p] W (fun r w' => r = .returned (.tuple #[.agg #[.string (bstr (wdig zr)), .int .i64 er], .int .i64 0]) ∧ Fresh W w')) ∧
    (∀ x W, SFr W x (dnum z e) (dden e) → Calls Tryz.prog 17 #[x, .int .i64 p, .int .i64 0] W (RdIRet W q (-p))) ∧
    (∀ x W, RdI W x q (-p) → Calls Tryz.prog 18 #[x] W (FRet W (dnum q (-p)) (dden (-p)))) ∧
    (∀ x W, SFr W x (dnum q (-p)) (dden (-p)) → Calls Tryz.prog 16 #[.agg #[.string (bstr (wdig zr)), .int .i64 er], x] W (fun r w' => r = .returned (.bool true) ∧ Fresh W w')) := by
  have hp : -100 ≤ p ∧ p ≤ 100 := hp
  have hq := rsZ_lt (z := z) (e := e) (n := -p) hz (by omega)
  have htr : (trZ z e p).natAbs < 10 ^ 220 := by
    unfold trZ; split
    · exact hq
    · exact Nat.lt_trans hz (Nat.pow_lt_pow_right (by omega) (by omega))
  have hte : -400 ≤ trE e p ∧ trE e p ≤ 400 := by unfold trE; split <;> omega
  have heq : dnum (trZ z e p) (trE e p) * (dden (-p) : Int) = dnum (rsZ z e (-p)) (-p) * (dden (trE e p) : Int) := by
    unfold trZ trE
    by_cases h : e < -p
    · rw [if_pos h, if_pos h]
    · rw [if_neg h, if_neg h]; exact rsZ_frac (by omega)
  refine ⟨trZ z e p, trE e p, rsZ z e (-p), fun W hW => DecTruncate_fit z e p W hW hz he hp, fun x W hx => ?_,
    says_tail 220 (by omega) (by omega) _ _ _ _ htr hte hq (by omega) heq⟩
  have := RoundD_any 0 (fun _ _ _ => false) rounds_tr x z e p W hx hz he hp
  rw [tr_law] at this
  exact this

theorem FnDecRescale_facts (z e p : Int) (hz : z.natAbs < 10 ^ 60) (he : -60 ≤ e ∧ e ≤ 60) (hp : -((100 : Nat) : Int) ≤ p ∧ p ≤ ((100 : Nat) : Int)) : ∃ zr q : Int,
    (∀ W, Glob W → Calls Tryz.prog 15 #[.agg #[.string (bstr (wdig z)), .int .i64 e], .int .i64 p] W (fun r w' => r = .returned (.tuple #[.agg #[.string (bstr (wdig zr)), .int .i64 p], .int .i64 0]) ∧ Fresh W w')) ∧
    (∀ x W, SFr W x (dnum z e) (dden e) → Calls Tryz.prog 17 #[x, .int .i64 (-p), .int .i64 0] W (RdIRet W q p)) ∧
    (∀ x W, RdI W x q p → Calls Tryz.prog 18 #[x] W (FRet W (dnum q p) (dden p))) ∧
    (∀ x W, SFr W x (dnum q p) (dden p) → Calls Tryz.prog 16 #[.agg #[.string (bstr (wdig zr)), .int .i64 p], x] W (fun r w' => r = .returned (.bool true) ∧ Fresh W w')) := by
  have hp : -100 ≤ p ∧ p ≤ 100 := hp
  have hq := rsZ_lt (z := z) (e := e) (n := p) hz (by omega)
  refine ⟨rsZ z e p, rsZ z e p, fun W hW => DecRescale_fit z e p W hW hz he hp, fun x W hx => ?_,
    says_tail 220 (by omega) (by omega) _ _ _ _ hq (by omega) hq (by omega) rfl⟩
  have := RoundD_any 0 (fun _ _ _ => false) rounds_tr x z e (-p) W hx hz he (by omega)
  rw [Int.neg_neg, tr_law] at this
  exact this

end Go.Proofs.YtllencgncinphaaGreatDoor

/- The walk of FnDecTruncate. Printed by gen_lw1.py FnDecTruncate. -/
namespace Go.Proofs.YtllencgncinphaaGreatDoor
open Go.RowKit

set_option maxRecDepth 20000 in
set_option maxHeartbeats 2000000 in
theorem FnDecTruncate_out (t1 : ByteArray) (x1 : Int) (n : Int) (w : World) (h1 : t1.size ≤ 9223372036854775807) (h : ¬ t1.size ≤ 2147483647) :
    Calls Tryz.prog 6 #[.agg #[.string t1, .int .i64 x1], .int .i64 n] w (VRet w (.bool true)) := by
  have hz1 : ∀ W, Calls Tryz.prog 12 #[.agg #[.string t1, .int .i64 x1]] W (fun r w' => r = .returned (.bool false) ∧ Fresh W w') := fun W => by
    have := zzFits1_any t1 x1 W h1
    rwa [decide_eq_false h] at this
  obtain ⟨g, hg⟩ : ∃ g, g = w.heap.size := ⟨_, rfl⟩
  clear h1 h
  have H_hz1 := Lib.hid hz1; clear hz1
  go_enter Tryz.func6, Tryz.ntmps6
  go_wp2_with (fail)
  generalize hw1 : w.alloc _ = w1
  have d1 : w1.heap[g]? = some (.cells #[.string t1, .int .i64 x1] 23 (0, 0)) := by rw [← hw1, hg]; exact heap_alloc_new w _
  have fa : Fresh w w1 := by rw [← hw1]; exact (Keep.refl _ _).alloc _
  rw [← hg]
  have k0 := row_cell d1 0
  have k1 := row_cell d1 1
  simp at k0 k1
  have H_fa := Lib.hid fa; clear fa
  have H_hw1 := Lib.hid hw1; clear hw1
  have H_d1 := Lib.hid d1; clear d1
  have H_hg := Lib.hid hg; clear hg
  go_wp2_with (fail)
  refine (H_hz1.out _).mono ?_
  rintro e w2 ⟨rfl, f2⟩
  have f2 := fresh_trans H_fa.out f2
  clear k0 k1
  have H_f2 := Lib.hid f2; clear f2
  go_wp2_with (fail)
  go_ret
  exact ⟨rfl, H_f2.out⟩

set_option maxRecDepth 20000 in
set_option maxHeartbeats 4000000 in
theorem FnDecTruncate_main (S1 : List Nat) (x1 : Int) (n : Int) (w : World) (hG : Glob w) (hS1 : ∀ c ∈ S1, c < 256) (hl1 : S1.length ≤ 2147483647) (hx1 : -9223372036854775808 ≤ x1 ∧ x1 ≤ 9223372036854775807) (hn : -9223372036854775808 ≤ n ∧ n ≤ 9223372036854775807) :
    Calls Tryz.prog 6 #[.agg #[.string (bstr S1), .int .i64 x1], .int .i64 n] w (VRet w (.bool true)) := by
  have hz1 : ∀ W, Calls Tryz.prog 12 #[.agg #[.string (bstr S1), .int .i64 x1]] W (fun r w' => r = .returned (.bool true) ∧ Fresh W w') := fun W => by
    have := zzFits1_any (bstr S1) x1 W (by rw [bstr_size]; omega)
    rwa [show decide ((bstr S1).size ≤ 2147483647) = true by rw [bstr_size]; simpa using hl1] at this
  have har := fun W => arOne_any S1 x1 W hS1 hl1 hx1
  have hap := fun W => arPlaces_any n 100 W (by omega) hn
  generalize bstr S1 = t1 at *
  clear hS1 hl1 hx1 hn
  obtain ⟨g, hg⟩ : ∃ g, g = w.heap.size := ⟨_, rfl⟩
  have H_hz1 := Lib.hid hz1; clear hz1
  have H_har := Lib.hid har; clear har
  have H_hap := Lib.hid hap; clear hap
  have H_hG := Lib.hid hG; clear hG
  go_enter Tryz.func6, Tryz.ntmps6
  go_wp2_with (fail)
  generalize hw1 : w.alloc _ = w1
  have d1 : w1.heap[g]? = some (.cells #[.string t1, .int .i64 x1] 23 (0, 0)) := by rw [← hw1, hg]; exact heap_alloc_new w _
  have fa : Fresh w w1 := by rw [← hw1]; exact (Keep.refl _ _).alloc _
  rw [← hg]
  have k0 := row_cell d1 0
  have k1 := row_cell d1 1
  simp at k0 k1
  have H_fa := Lib.hid fa; clear fa
  have H_hw1 := Lib.hid hw1; clear hw1
  have H_d1 := Lib.hid d1; clear d1
  have H_hg := Lib.hid hg; clear hg
  go_wp2_with (fail)
  refine (H_hz1.out _).mono ?_
  rintro e w2 ⟨rfl, f2⟩
  have d1 := row_fresh H_d1.out f2
  have fa := fresh_trans H_fa.out f2
  clear H_d1 H_fa f2 k0 k1
  have k0 := row_cell d1 0
  have k1 := row_cell d1 1
  simp at k0 k1
  have H_d1 := Lib.hid d1; clear d1
  have H_fa := Lib.hid fa; clear fa
  go_wp2_with (fail)
  refine (H_har.out _).mono ?_
  rintro r w4 ⟨z, e, u1, rfl, q1, q2, s1, f4⟩
  clear k0 k1
  have d1 := row_fresh H_d1.out f4
  have fa := fresh_trans H_fa.out f4
  clear H_d1 H_fa f4
  have hs1 := s1
  obtain ⟨na, va, la, da, dla, rfl, xa1, xa2, xa3, xa4, xa5, xa6⟩ := s1
  obtain ⟨aa, ca, rfl⟩ := xa1.form
  obtain ⟨ac, cc, rfl⟩ := xa5.form
  clear xa1 xa2 xa3 xa4 xa5 xa6
  generalize la.length = ln1 at *
  generalize dla.length = ln3 at *
  clear la dla
  obtain ⟨h, hh⟩ : ∃ h, h = w4.heap.size := ⟨_, rfl⟩
  clear H_hz1 H_har
  obtain ⟨y1, hy1⟩ : ∃ y1, y1 = bstr (wdig z) := ⟨_, rfl⟩
  rw [← hy1]
  have H_d1 := Lib.hid d1; clear d1
  have H_fa := Lib.hid fa; clear fa
  have H_hh := Lib.hid hh; clear hh
  have H_hs1 := Lib.hid hs1; clear hs1
  have H_q1 := Lib.hid q1; clear q1
  have H_q2 := Lib.hid q2; clear q2
  have H_hy1 := Lib.hid hy1; clear hy1
  dsimp only
  refine (‹∀ (a : Act) (w_1 : World), wpList _ _ _ _ a w_1 → _›) _ _ ?_
  refine wl_value rfl (v := ?v1) (w' := w4) ?y1 ?r1
  case y1 => (go_simp; try with_reducible rfl)
  try simp only [Act.put, yD, yE, yF]
  refine wl_value rfl (v := ?v2) (w' := w4) ?y2 ?r2
  case y2 => (go_simp; try with_reducible rfl)
  try simp only [Act.put, yD, yE, yF]
  refine wl_value rfl (v := ?v3) (w' := w4) ?y3 ?r3
  case y3 => (go_simp; try with_reducible rfl)
  try simp only [Act.put, yD, yE, yF]
  refine wl_value rfl (v := .pointer (some ⟨h, 0, none⟩)) (w' := w4.alloc (.cells #[.bool false, .slice none 0 0, .slice none 0 0] 30 (0, 0))) ?y6 ?r6
  case y6 => (have hh := H_hh.out; go_simp)
  try simp only [Act.put, yD, yE, yF]
  generalize hw5 : w4.alloc _ = w5
  have r5 : w5.heap[h]? = some (.cells #[.bool false, .slice none 0 0, .slice none 0 0] 30 (0, 0)) := by rw [← hw5, H_hh.out]; exact heap_alloc_new w4 _
  have f5 : Fresh w4 w5 := by rw [← hw5]; exact (Keep.refl _ _).alloc _
  have hlt1 := lt_of_row H_d1.out
  rw [← H_hh.out] at hlt1
  have d1 := row_fresh H_d1.out f5
  have fa := fresh_trans H_fa.out f5
  have hs1 := H_hs1.out.fresh f5
  clear H_d1 H_fa H_hs1
  have H_d1 := Lib.hid d1; clear d1
  have H_r5 := Lib.hid r5; clear r5
  have H_fa := Lib.hid fa; clear fa
  have H_hw5 := Lib.hid hw5; clear hw5
  have H_f5 := Lib.hid f5; clear f5
  have H_hlt1 := Lib.hid hlt1; clear hlt1
  have H_hs1 := Lib.hid hs1; clear hs1
  obtain ⟨W8_, hW8⟩ : ∃ W, W = ((w5.setCell ⟨g, 0, none⟩ (.string y1)).setCell ⟨g, 1, none⟩ (.int .i64 e)) := ⟨_, rfl⟩
  refine wl_skip rfl (w' := W8_) ?y8 ?r8
  case y8 => (rw [hW8]; have p0 := row_cell H_d1.out 0; have p1 := row_cell H_d1.out 1; simp at p0 p1; have q0 : w5.frozen? ⟨g, 0, none⟩ = false := frozen_of_row _ _ _ _ _ H_d1.out; have q1 : w5.frozen? ⟨g, 1, none⟩ = false := frozen_of_row _ _ _ _ _ H_d1.out; go_simp; try with_reducible rfl)
  try simp only [Act.put]
  have r8 : W8_.heap[h]? = some (.cells #[.bool false, .slice none 0 0, .slice none 0 0] 30 (0, 0)) := by rw [hW8]; exact row_set_ne (by have := H_hlt1.out; omega) (row_set_ne (by have := H_hlt1.out; omega) H_r5.out)
  have H_r8 := Lib.hid r8; clear r8
  have H_hW8 := Lib.hid hW8; clear hW8
  obtain ⟨W9_, hW9⟩ : ∃ W, W = (((W8_.setCell ⟨h, 0, none⟩ (.bool na)).setCell ⟨h, 1, none⟩ (.slice aa ln1 ca)).setCell ⟨h, 2, none⟩ (.slice ac ln3 cc)) := ⟨_, rfl⟩
  refine wl_skip rfl (w' := W9_) ?y9 ?r9
  case y9 => (rw [hW9]; have p0 := row_cell H_r8.out 0; have p1 := row_cell H_r8.out 1; have p2 := row_cell H_r8.out 2; simp at p0 p1 p2; have q0 : W8_.frozen? ⟨h, 0, none⟩ = false := frozen_of_row _ _ _ _ _ H_r8.out; have q1 : W8_.frozen? ⟨h, 1, none⟩ = false := frozen_of_row _ _ _ _ _ H_r8.out; have q2 : W8_.frozen? ⟨h, 2, none⟩ = false := frozen_of_row _ _ _ _ _ H_r8.out; go_simp; try with_reducible rfl)
  try simp only [Act.put]
  obtain ⟨d1, r5, hsf, hff⟩ := two_rows (by have := H_hlt1.out; omega) H_d1.out H_r5.out _ _ _ _ _ (by intro n; simp [wd]) (by intro n; simp [wd]) W9_ (by rw [hW9, H_hW8.out])
  have hs1 := hsf _ _ _ H_hs1.out
  have hgw := H_hg.out
  have hgh := H_hlt1.out
  have fa := hff w (by omega) (by omega) H_fa.out
  clear H_d1 H_r5 H_fa H_hs1 H_r8 H_hW8 hW9 hsf hff H_hw5 H_f5 hgw hgh
  have k0 := row_cell d1 0
  have k1 := row_cell d1 1
  simp at k0 k1
  have H_d1 := Lib.hid d1; clear d1
  have H_r5 := Lib.hid r5; clear r5
  have H_hs1 := Lib.hid hs1; clear hs1
  have H_fa := Lib.hid fa; clear fa
  go_wp2_with (fail)
  refine (H_hap.out _).mono ?_
  rintro r w6 ⟨p, rfl, hp, hw6⟩
  obtain rfl : W9_ = w6 := hw6.symm
  obtain ⟨zr, er, q, hop, hrd, hfc, hsy⟩ := FnDecTruncate_facts z e p H_q1.out H_q2.out hp
  rw [← H_hy1.out] at hop
  obtain ⟨N1, hN1⟩ : ∃ N1, dnum z e = N1 := ⟨_, rfl⟩
  obtain ⟨D1, hD1⟩ : ∃ D1, dden e = D1 := ⟨_, rfl⟩
  have hs1 := H_hs1.out
  rw [hN1, hD1] at hs1
  rw [hN1, hD1] at hrd
  clear H_hs1 H_hy1 H_q1 H_q2 hN1 hD1 H_hap
  generalize bstr (wdig zr) = yr at *
  have H_hop := Lib.hid hop; clear hop
  have H_hrd := Lib.hid hrd; clear hrd
  have H_hfc := Lib.hid hfc; clear hfc
  have H_hsy := Lib.hid hsy; clear hsy
  have H_hs1 := Lib.hid hs1; clear hs1
  have H_hp := Lib.hid hp; clear hp
  go_wp2_with (fail)
  refine (H_hop.out _ (H_hG.out.fresh H_fa.out)).mono ?_
  rintro r w12 ⟨rfl, f12⟩
  clear k0 k1
  obtain ⟨h7, hhh7⟩ : ∃ k, k = w12.heap.size := ⟨_, rfl⟩
  have d1 := row_fresh H_d1.out f12
  have fa := fresh_trans H_fa.out f12
  have r5 := row_fresh H_r5.out f12
  have hs1 := H_hs1.out.fresh f12
  clear H_d1 H_fa H_r5 H_hs1 f12
  have H_hhh7 := Lib.hid hhh7; clear hhh7
  have H_d1 := Lib.hid d1; clear d1
  have H_fa := Lib.hid fa; clear fa
  have H_r5 := Lib.hid r5; clear r5
  have H_hs1 := Lib.hid hs1; clear hs1
  go_wp2_with (fail)
  generalize hw13 : w12.alloc _ = w13
  have f13 : Fresh w12 w13 := by rw [← hw13]; exact (Keep.refl _ _).alloc _
  have r7 : w13.heap[h7]? = some (.cells #[.string yr, .int .i64 er] 23 (0, 0)) := by rw [← hw13, H_hhh7.out]; exact heap_alloc_new w12 _
  rw [← H_hhh7.out]
  have d1 := row_fresh H_d1.out f13
  have fa := fresh_trans H_fa.out f13
  have r5 := row_fresh H_r5.out f13
  have hs1 := H_hs1.out.fresh f13
  clear H_d1 H_fa H_r5 H_hs1 f13
  have k2 := row_cell r7 0
  have k3 := row_cell r7 1
  have k6 := row_cell r5 0
  have k7 := row_cell r5 1
  have k8 := row_cell r5 2
  simp at k2 k3 k6 k7 k8
  have H_d1 := Lib.hid d1; clear d1
  have H_fa := Lib.hid fa; clear fa
  have H_r5 := Lib.hid r5; clear r5
  have H_hs1 := Lib.hid hs1; clear hs1
  have H_r7 := Lib.hid r7; clear r7
  have H_hw13 := Lib.hid hw13; clear hw13
  refine wp_region_E (S := (fun (w' : World) => w'.cell? ⟨h7, 0, none⟩ = some (.string yr) ∧ w'.cell? ⟨h7, 1, none⟩ = some (.int .i64 er) ∧ w'.cell? ⟨h, 0, none⟩ = some (.bool na) ∧ w'.cell? ⟨h, 1, none⟩ = some (.slice aa ln1 ca) ∧ w'.cell? ⟨h, 2, none⟩ = some (.slice ac ln3 cc))) 10 (by kernel_rfl) (by exact ⟨k2, k3, k6, k7, k8⟩) (fun hHeld => ?_)
  refine wpAnyE_takeP (i := 0) (v := ?v0_1) rfl (by kernel_rfl) (fun _ _ _ h => h) ⟨by rfl, ?y0_1⟩ (by assumption) ?r0_1
  case y0_1 => (intro w; go_simp; try with_reducible rfl)
  try simp only [Act.put, yA, yB, yD, yE, yF]
  refine wpAnyE_takeP (i := 1) (v := .bool true) rfl (by kernel_rfl) (fun _ _ _ h => h) ⟨by rfl, ?y1_1⟩ (by assumption) ?r1_1
  case y1_1 => (intro w; go_simp)
  try simp only [Act.put, yA, yB, yC, yD, yE, yF]
  refine wpAnyE_takeP (i := 2) (v := .bool true) rfl (by kernel_rfl) (fun _ _ _ h => h) ⟨by rfl, ?y2_1⟩ (by assumption) ?r2_1
  case y2_1 => (intro w; go_simp)
  try simp only [Act.put, yA, yB, yC, yD, yE, yF]
  refine wpAnyE_takeL (i := 3) (c := 8) (v := ?v3_1) rfl (by kernel_rfl) (fun _ _ _ h => h) ⟨by rfl, ?y3_1⟩ (by assumption) ?r3_1
  case y3_1 => (intro w hSw; go_split_ands; go_simp; try with_reducible rfl)
  try simp only [Act.put, yA, yB, yC, yD, yE, yF]
  refine wpAnyE_takeL (i := 4) (c := 6) (v := ?v4_1) rfl (by kernel_rfl) (fun _ _ _ h => h) ⟨by rfl, ?y4_1⟩ (by assumption) ?r4_1
  case y4_1 => (intro w hSw; go_split_ands; go_simp; try with_reducible rfl)
  try simp only [Act.put, yA, yB, yC, yD, yE, yF]
  refine wpAnyE_takeP (i := 5) (v := ?v5_1) rfl (by kernel_rfl) (fun _ _ _ h => h) ⟨by rfl, ?y5_1⟩ (by assumption) ?r5_1
  case y5_1 => (intro w; go_simp; try with_reducible rfl)
  try simp only [Act.put, yA, yB, yC, yD, yE, yF]
  refine wpAnyE_one (i := 6) rfl (by kernel_rfl) (fun K hK => ?_)
  go_simp
  refine (H_hrd.out _ _ (H_hs1.out.fresh ?c1)).mono ?_; (case c1 => exact (Keep.refl _ _).drew); rintro r y_1 ⟨xw, rfl, hx, r⟩; have y := r.of_drew; have m_2 := cell_fresh k2 y; have m_3 := cell_fresh k3 y; have m_6 := cell_fresh k6 y; have m_7 := cell_fresh k7 y; have m_8 := cell_fresh k8 y; have H_y1 := Lib.hid y; have H_x1 := Lib.hid hx; clear y r hx
  go_wp2_with (fail)
  have hHeld1 : ((fun (w' : World) => w'.cell? ⟨h7, 0, none⟩ = some (.string yr) ∧ w'.cell? ⟨h7, 1, none⟩ = some (.int .i64 er) ∧ w'.cell? ⟨h, 0, none⟩ = some (.bool na) ∧ w'.cell? ⟨h, 1, none⟩ = some (.slice aa ln1 ca) ∧ w'.cell? ⟨h, 2, none⟩ = some (.slice ac ln3 cc))) _ := ⟨m_2, m_3, m_6, m_7, m_8⟩
  refine hK.out _ _ (fun _ => hHeld1) ?_
  clear hK K
  try simp only [Act.put, yA, yB, yC, yD, yE, yF]
  refine wpAnyE_one (i := 7) rfl (by kernel_rfl) (fun K hK => ?_)
  go_simp
  refine (H_hfc.out _ _ H_x1.out).mono ?_; rintro r y_2 ⟨xw2, rfl, hx, y⟩; have n_2 := cell_fresh m_2 y; have n_3 := cell_fresh m_3 y; have n_6 := cell_fresh m_6 y; have n_7 := cell_fresh m_7 y; have n_8 := cell_fresh m_8 y; have H_y2 := Lib.hid (fresh_trans H_y1.out y); have H_x2 := Lib.hid hx; clear y hx
  go_wp2_with (fail)
  have hHeld2 : ((fun (w' : World) => w'.cell? ⟨h7, 0, none⟩ = some (.string yr) ∧ w'.cell? ⟨h7, 1, none⟩ = some (.int .i64 er) ∧ w'.cell? ⟨h, 0, none⟩ = some (.bool na) ∧ w'.cell? ⟨h, 1, none⟩ = some (.slice aa ln1 ca) ∧ w'.cell? ⟨h, 2, none⟩ = some (.slice ac ln3 cc))) _ := ⟨n_2, n_3, n_6, n_7, n_8⟩
  refine hK.out _ _ (fun _ => hHeld2) ?_
  clear hK K
  try simp only [Act.put, yA, yB, yC, yD, yE, yF]
  refine wpAnyE_one (i := 8) rfl (by kernel_rfl) (fun K hK => ?_)
  go_simp
  refine (H_hsy.out _ _ H_x2.out).mono ?_; rintro r y_3 ⟨rfl, y⟩; have p_2 := cell_fresh n_2 y; have p_3 := cell_fresh n_3 y; have p_6 := cell_fresh n_6 y; have p_7 := cell_fresh n_7 y; have p_8 := cell_fresh n_8 y; have H_y3 := Lib.hid (fresh_trans H_y2.out y); clear y
  go_wp2_with (fail)
  have hHeld3 : ((fun (w' : World) => w'.cell? ⟨h7, 0, none⟩ = some (.string yr) ∧ w'.cell? ⟨h7, 1, none⟩ = some (.int .i64 er) ∧ w'.cell? ⟨h, 0, none⟩ = some (.bool na) ∧ w'.cell? ⟨h, 1, none⟩ = some (.slice aa ln1 ca) ∧ w'.cell? ⟨h, 2, none⟩ = some (.slice ac ln3 cc))) _ := ⟨p_2, p_3, p_6, p_7, p_8⟩
  refine hK.out _ _ (fun _ => hHeld3) ?_
  clear hK K
  try simp only [Act.put, yA, yB, yC, yD, yE, yF]
  refine wpAnyE_takeP (i := 9) (v := .bool true) rfl (by kernel_rfl) (fun _ _ _ h => h) ⟨by rfl, ?y9_1⟩ (by assumption) ?r9_1
  case y9_1 => (intro w; go_simp)
  try simp only [Act.put, yA, yB, yC, yD, yE, yF]
  refine wpAnyE_one (i := 10) rfl (by kernel_rfl) (fun K hK => ?_)
  go_simp
  refine hK.out _ _ (fun h => Bool.noConfusion (show true = false from h)) ?_
  clear hK K
  try simp only [Act.put, yA, yB, yC, yD, yE, yF]
  refine wpAnyE_done (by kernel_rfl) ?_ _
  go_wp2_with (fail)
  go_ret
  exact ⟨rfl, fresh_trans H_fa.out H_y3.out⟩

end Go.Proofs.YtllencgncinphaaGreatDoor

/- Facts about the program as a whole that every card asks. -/
namespace Go.Proofs.YtllencgncinphaaGreatDoor
open Go Go.ChangeShapes Go.WideShapes Go.ChangeAt Go.RowKit Go.Lib Go.Joins

theorem main_is : Tryz.pinned.checked.prog.mainIs = some (Rows.fnDecRescaleCard.stood.harness.fst, Rows.fnDecRescaleCard.stood.harness.snd.toList) := by kernel_rfl

theorem looks_no : false = Tryz.pinned.checked.prog.looks [] := by kernel_rfl

end Go.Proofs.YtllencgncinphaaGreatDoor
