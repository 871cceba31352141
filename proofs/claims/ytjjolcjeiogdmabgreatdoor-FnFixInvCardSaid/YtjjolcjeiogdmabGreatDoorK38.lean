/- govalues.Decimal.QuoExact of zero. -/
import Derived.Test.YtjjolcjeiogdmabGreatDoorK3
import Derived.Test.YtjjolcjeiogdmabGreatDoorK5
import Derived.Test.YtjjolcjeiogdmabGreatDoorK10
import Derived.Test.YtjjolcjeiogdmabGreatDoorK11
import Derived.Test.YtjjolcjeiogdmabGreatDoorK37
namespace Go.Proofs.YtjjolcjeiogdmabGreatDoor
open Go.RowKit

end Go.Proofs.YtjjolcjeiogdmabGreatDoor

/- The contract of impl.FixQuo. -/
namespace Go.Proofs.YtjjolcjeiogdmabGreatDoor
open Go.RowKit

end Go.Proofs.YtjjolcjeiogdmabGreatDoor

/- The walk of FnFixQuo. -/
namespace Go.Proofs.YtjjolcjeiogdmabGreatDoor
open Go.RowKit

theorem inv_quo {n2 : Bool} {c2 s2 : Nat} (h : 0 < c2) (x : Value) (W : World) (hx : SFr W x (zfix n2 c2) (10 ^ s2)) : Calls Tryz.prog 8 #[x] W (FRet W (zfix n2 (10 ^ s2)) c2) := by
  have hi := FracInverse_any x _ _ W hx
  have e1 : (zfix n2 c2).natAbs = c2 := by unfold zfix; split <;> simp
  have e2 : (if zfix n2 c2 < 0 then -((10 ^ s2 : Nat) : Int) else ((10 ^ s2 : Nat) : Int)) = zfix n2 (10 ^ s2) := by
    unfold zfix
    cases n2
    · rw [if_neg (by simp)]; rfl
    · rw [if_pos (by simp; omega)]; rfl
  rw [e1, e2] at hi
  exact hi

end Go.Proofs.YtjjolcjeiogdmabGreatDoor

/- FnFixQuo: every way. -/
namespace Go.Proofs.YtjjolcjeiogdmabGreatDoor
open Go.RowKit

theorem quo_bounds {n1 n2 : Bool} {c1 s1 c2 s2 : Nat} (hs1 : s1 ≤ 19) (hs2 : s2 ≤ 19) (hc1 : c1 ≤ 9999999999999999999) (hc2 : c2 ≤ 9999999999999999999) (h0 : 0 < c2) :
    0 < 10 ^ s1 * c2 ∧ 10 ^ s1 * c2 < spow 300 ∧ (zfix n1 c1 * zfix n2 (10 ^ s2)).natAbs < spow 300 := by
  have e5 : spow 5 ≤ spow 300 := spow_mono (by omega)
  have p1 : 10 ^ s1 ≤ 10 ^ 19 := Nat.pow_le_pow_right (by omega) hs1
  have p2 : 10 ^ s2 ≤ 10 ^ 19 := Nat.pow_le_pow_right (by omega) hs2
  refine ⟨Nat.mul_pos (Nat.pow_pos (by omega)) h0, Nat.lt_of_le_of_lt (Nat.mul_le_mul p1 hc2) (Nat.lt_of_lt_of_le (by decide) e5), ?_⟩
  rw [quo_abs]
  exact Nat.lt_of_le_of_lt (Nat.mul_le_mul hc1 p2) (Nat.lt_of_lt_of_le (by decide) e5)

theorem trim_ok {z : Int} {d sz cz t ct : Nat} {nz : Bool} (hd : 0 < d) (hg : Good z.natAbs d cz sz) (h3 : nz = true → 0 < cz) (h4 : zfix nz cz = sgnN z cz) (ht : t ≤ sz) (hct : ct * 10 ^ (sz - t) = cz) :
    t ≤ 19 ∧ ct ≤ 9999999999999999999 ∧ (nz = true → 0 < ct) ∧ zfix nz ct = sgnN z ct ∧ ∃ T, Top z.natAbs d T ∧ ct * 10 ^ T = rhe (z.natAbs * 10 ^ T) d * 10 ^ t := by
  have hp : 0 < 10 ^ (sz - t) := Nat.pow_pos (by omega)
  have hle : ct ≤ cz := by rw [← hct]; exact Nat.le_mul_of_pos_right _ hp
  obtain ⟨T, hT, _, e⟩ := good_top hd hg
  refine ⟨Nat.le_trans ht hg.1, Nat.le_trans hle hg.2.1, fun h => ?_, ?_, T, hT, ?_⟩
  · rcases Nat.eq_zero_or_pos ct with h0 | h0
    · have := h3 h; rw [← hct, h0] at this; omega
    · exact h0
  · have hI : ((10 ^ (sz - t) : Nat) : Int) ≠ 0 := by
      have : (0 : Int) < ((10 ^ (sz - t) : Nat) : Int) := by exact_mod_cast hp
      omega
    refine Int.eq_of_mul_eq_mul_right hI ?_
    rw [zfix_mul, sgnN_mul, hct]
    exact h4
  · refine Nat.eq_of_mul_eq_mul_right hp ?_
    rw [Nat.mul_right_comm, hct, e, Nat.mul_assoc, ← Nat.pow_add, show t + (sz - t) = sz by omega]

end Go.Proofs.YtjjolcjeiogdmabGreatDoor

/- The contract of impl.FixInv. -/
namespace Go.Proofs.YtjjolcjeiogdmabGreatDoor
open Go.RowKit

theorem FixInvX1_idle (p q : Addr) (w : World) :
    CallsD Tryz.prog 9 #[.pointer (some p), .pointer (some q)] .returning w fun e u' w' => e = .returned (.tuple #[]) ∧ u' = .returning ∧ w' = w := by
  refine callsD_of_wpS Tryz.func9 rfl fun c₀ cs hu => ?_
  apply wpS_seq
  apply wpS_region
  simp [wpOpsS, go_sem, recoverD, hu, Tryz.ntmps9, Exit.thenS]
  refine wpS_cond (t := false) (by simp [Act.eval, Array.replicate]) ?_
  simp only [Bool.false_eq_true, if_false]
  refine wpS_of_wp (wp_skip ?_)
  cases c₀
  simp_all [bodyPostS, results, Tryz.results9]

set_option maxRecDepth 20000 in
set_option maxHeartbeats 4000000 in
theorem FixInv_ok (n1 nz : Bool) (c1 s1 cz sz : Nat) (w : World) (hs1 : s1 ≤ 19) (hc1 : c1 ≤ 9999999999999999999) (hsz : sz ≤ 19)
    (hm : ∀ W, Fresh w W → Calls Tryz.prog 11 #[gd (n1 && decide (0 < c1)) s1 c1] W (VRet W (.tuple #[gd nz sz cz, .nilIface]))) :
    Calls Tryz.prog 5 #[fx n1 c1 s1] w (VRet w (.tuple #[fx nz cz sz, .int .i64 0])) := by
  have hmf : ∀ (fn : Fn) (first cap : Array Value) (w : World), (Instr.makeFunc fn first cap).run Tryz.prog w = .ok (.func fn first cap) w := fun _ _ _ _ => rfl
  obtain ⟨m1, e1⟩ : ∃ n, n = (n1 && decide (0 < c1)) := ⟨_, rfl⟩
  rw [← e1] at hm
  have H_hm := Lib.hid hm; clear hm
  have H_e1 := Lib.hid e1; clear e1
  go_enter_defers Tryz.func5, Tryz.ntmps5
  go_wp2_with (fail)
  obtain ⟨g, hg⟩ : ∃ g, g = w.heap.size := ⟨_, rfl⟩
  have bx := boxes3 w #[.bool n1, .int .u64 c1, .int .i64 s1] #[.bool false, .int .u64 0, .int .i64 0] #[.int .i64 0] 24 24 3 g hg
  have H_bx := Lib.hid bx; clear bx
  generalize hw1 : ((w.alloc _).alloc _).alloc _ = w1
  rw [← hg]
  obtain ⟨d1, d3, d4, fa, _⟩ := H_bx.out w1 hw1
  have H_d1 := Lib.hid d1; clear d1
  have H_d3 := Lib.hid d3; clear d3
  have H_d4 := Lib.hid d4; clear d4
  have H_fa := Lib.hid fa; clear fa
  have H_hw1 := Lib.hid hw1; clear hw1
  have H_hg := Lib.hid hg; clear hg
  refine (fixed_any n1 s1 c1 _ hs1 hc1).mono ?_
  rintro e w2 ⟨rfl, f2⟩
  rw [← H_e1.out]
  have d1 := row_fresh H_d1.out f2
  have d3 := row_fresh H_d3.out f2
  have d4 := row_fresh H_d4.out f2
  have fa := fresh_trans H_fa.out f2
  obtain ⟨h1, hh1⟩ : ∃ h, h = w2.heap.size := ⟨_, rfl⟩
  clear H_d1 H_d3 H_d4 H_fa
  have H_d1 := Lib.hid d1; clear d1
  have H_d3 := Lib.hid d3; clear d3
  have H_d4 := Lib.hid d4; clear d4
  have H_fa := Lib.hid fa; clear fa
  have H_f2 := Lib.hid f2; clear f2
  have H_hh1 := Lib.hid hh1; clear hh1
  go_wp2_with (fail)
  generalize hw3 : w2.alloc _ = w3
  have f3 : Fresh w2 w3 := by rw [← hw3]; exact (Keep.refl _ _).alloc _
  have r1 : w3.heap[h1]? = some (.cells #[.bool m1, .int .i8 s1, .int .u64 c1] 40 (0, 0)) := by rw [← hw3, H_hh1.out]; exact heap_alloc_new w2 _
  rw [← H_hh1.out]
  have d1 := row_fresh H_d1.out f3
  have d3 := row_fresh H_d3.out f3
  have d4 := row_fresh H_d4.out f3
  have fa := fresh_trans H_fa.out f3
  clear H_d1 H_d3 H_d4 H_fa
  have H_d1 := Lib.hid d1; clear d1
  have H_d3 := Lib.hid d3; clear d3
  have H_d4 := Lib.hid d4; clear d4
  have H_r1 := Lib.hid r1; clear r1
  have H_fa := Lib.hid fa; clear fa
  have H_f3 := Lib.hid f3; clear f3
  have H_hw3 := Lib.hid hw3; clear hw3
  refine (H_hm.out _ H_fa.out).mono ?_
  rintro e w6 ⟨rfl, f6⟩
  have d1 := row_fresh H_d1.out f6
  have d3 := row_fresh H_d3.out f6
  have d4 := row_fresh H_d4.out f6
  have r1 := row_fresh H_r1.out f6
  have fa := fresh_trans H_fa.out f6
  clear H_d1 H_d3 H_d4 H_r1 H_fa
  have H_d1 := Lib.hid d1; clear d1
  have H_d3 := Lib.hid d3; clear d3
  have H_d4 := Lib.hid d4; clear d4
  have H_r1 := Lib.hid r1; clear r1
  have H_fa := Lib.hid fa; clear fa
  have H_f6 := Lib.hid f6; clear f6
  go_wp2_with (fail)
  generalize hw7 : w6.alloc _ = w7
  have f7 : Fresh w6 w7 := by rw [← hw7]; exact (Keep.refl _ _).alloc _
  have d1 := row_fresh H_d1.out f7
  have d3 := row_fresh H_d3.out f7
  have d4 := row_fresh H_d4.out f7
  have r1 := row_fresh H_r1.out f7
  have fa := fresh_trans H_fa.out f7
  clear H_d1 H_d3 H_d4 H_r1 H_fa
  have H_d1 := Lib.hid d1; clear d1
  have H_d3 := Lib.hid d3; clear d3
  have H_d4 := Lib.hid d4; clear d4
  have H_r1 := Lib.hid r1; clear r1
  have H_fa := Lib.hid fa; clear fa
  have H_f7 := Lib.hid f7; clear f7
  have H_hw7 := Lib.hid hw7; clear hw7
  refine (fix_any nz sz cz _ hsz).mono ?_
  rintro e w8 ⟨rfl, f8⟩
  have d1 := row_fresh H_d1.out f8
  have d3 := row_fresh H_d3.out f8
  have d4 := row_fresh H_d4.out f8
  have r1 := row_fresh H_r1.out f8
  have fa := fresh_trans H_fa.out f8
  have p0 := row_cell d3 0
  have p1 := row_cell d3 1
  have p2 := row_cell d3 2
  have p3 := row_cell d4 0
  simp at p0 p1 p2 p3
  have q0 : w8.frozen? ⟨g + 1, 0, none⟩ = false := frozen_of_row _ _ _ _ _ d3
  have q1 : w8.frozen? ⟨g + 1, 1, none⟩ = false := frozen_of_row _ _ _ _ _ d3
  have q2 : w8.frozen? ⟨g + 1, 2, none⟩ = false := frozen_of_row _ _ _ _ _ d3
  have q3 : w8.frozen? ⟨g + 1 + 1, 0, none⟩ = false := frozen_of_row _ _ _ _ _ d4
  clear H_d1 H_d3 H_d4 H_r1 H_fa
  have H_d1 := Lib.hid d1; clear d1
  have H_d3 := Lib.hid d3; clear d3
  have H_d4 := Lib.hid d4; clear d4
  have H_r1 := Lib.hid r1; clear r1
  have H_fa := Lib.hid fa; clear fa
  have H_f8 := Lib.hid f8; clear f8
  go_wp2_with (fail)
  refine leaves_cons (f := 9) (args := #[.pointer (some ⟨g + 1, 0, none⟩), .pointer (some ⟨g + 1 + 1, 0, none⟩)]) (by simp) (by simp [go_sem]) ?_
  refine (FixInvX1_idle _ _ _).mono ?_
  rintro e u' w'' ⟨rfl, rfl, rfl⟩
  refine ⟨.tuple #[fx nz cz sz, .int .i64 0], results_cell_cell rfl _ _ (g + 1) 24 #[.bool nz, .int .u64 cz, .int .i64 sz] (0, 0) _ (g + 1 + 1) _ rfl rfl ?_ Tryz.underlying24 rfl (by kernel_rfl) ?_, ?_⟩
  · rw [row_far (by omega)]; exact row3 H_d3.out
  · have hcell : ((((w8.setCell ⟨g + 1, 0, none⟩ (.bool nz)).setCell ⟨g + 1, 1, none⟩ (.int .u64 cz)).setCell ⟨g + 1, 2, none⟩ (.int .i64 sz)).setCell ⟨g + 1 + 1, 0, none⟩ (.int .i64 0)).cell? ⟨g + 1 + 1, 0, none⟩ = some (.int .i64 0) :=
      cell?_setCell_eq rfl (by rw [far3 (by omega) p3]; rfl)
    simp [loadVar, go_sem, hcell]
  · exact ⟨rfl, (H_fa.out.set3 (by have := H_hg.out; omega)).setCell (fun h => by have := H_hg.out; change g + 1 + 1 < w.heap.size at h; omega) _⟩

set_option maxRecDepth 20000 in
set_option maxHeartbeats 4000000 in
theorem FixInv_err (n1 : Bool) (c1 s1 : Nat) (w : World) (hs1 : s1 ≤ 19) (hc1 : c1 ≤ 9999999999999999999) 
    (hm : ∀ W, Fresh w W → Calls Tryz.prog 11 #[gd (n1 && decide (0 < c1)) s1 c1] W (ClampErr W)) :
    Calls Tryz.prog 5 #[fx n1 c1 s1] w (VRet w (.tuple #[.agg #[.bool false, .int .u64 0, .int .i64 0], .int .i64 1])) := by
  have hmf : ∀ (fn : Fn) (first cap : Array Value) (w : World), (Instr.makeFunc fn first cap).run Tryz.prog w = .ok (.func fn first cap) w := fun _ _ _ _ => rfl
  obtain ⟨m1, e1⟩ : ∃ n, n = (n1 && decide (0 < c1)) := ⟨_, rfl⟩
  rw [← e1] at hm
  have H_hm := Lib.hid hm; clear hm
  have H_e1 := Lib.hid e1; clear e1
  go_enter_defers Tryz.func5, Tryz.ntmps5
  go_wp2_with (fail)
  obtain ⟨g, hg⟩ : ∃ g, g = w.heap.size := ⟨_, rfl⟩
  have bx := boxes3 w #[.bool n1, .int .u64 c1, .int .i64 s1] #[.bool false, .int .u64 0, .int .i64 0] #[.int .i64 0] 24 24 3 g hg
  have H_bx := Lib.hid bx; clear bx
  generalize hw1 : ((w.alloc _).alloc _).alloc _ = w1
  rw [← hg]
  obtain ⟨d1, d3, d4, fa, _⟩ := H_bx.out w1 hw1
  have H_d1 := Lib.hid d1; clear d1
  have H_d3 := Lib.hid d3; clear d3
  have H_d4 := Lib.hid d4; clear d4
  have H_fa := Lib.hid fa; clear fa
  have H_hw1 := Lib.hid hw1; clear hw1
  have H_hg := Lib.hid hg; clear hg
  refine (fixed_any n1 s1 c1 _ hs1 hc1).mono ?_
  rintro e w2 ⟨rfl, f2⟩
  rw [← H_e1.out]
  have d1 := row_fresh H_d1.out f2
  have d3 := row_fresh H_d3.out f2
  have d4 := row_fresh H_d4.out f2
  have fa := fresh_trans H_fa.out f2
  obtain ⟨h1, hh1⟩ : ∃ h, h = w2.heap.size := ⟨_, rfl⟩
  clear H_d1 H_d3 H_d4 H_fa
  have H_d1 := Lib.hid d1; clear d1
  have H_d3 := Lib.hid d3; clear d3
  have H_d4 := Lib.hid d4; clear d4
  have H_fa := Lib.hid fa; clear fa
  have H_f2 := Lib.hid f2; clear f2
  have H_hh1 := Lib.hid hh1; clear hh1
  go_wp2_with (fail)
  generalize hw3 : w2.alloc _ = w3
  have f3 : Fresh w2 w3 := by rw [← hw3]; exact (Keep.refl _ _).alloc _
  have r1 : w3.heap[h1]? = some (.cells #[.bool m1, .int .i8 s1, .int .u64 c1] 40 (0, 0)) := by rw [← hw3, H_hh1.out]; exact heap_alloc_new w2 _
  rw [← H_hh1.out]
  have d1 := row_fresh H_d1.out f3
  have d3 := row_fresh H_d3.out f3
  have d4 := row_fresh H_d4.out f3
  have fa := fresh_trans H_fa.out f3
  clear H_d1 H_d3 H_d4 H_fa
  have H_d1 := Lib.hid d1; clear d1
  have H_d3 := Lib.hid d3; clear d3
  have H_d4 := Lib.hid d4; clear d4
  have H_r1 := Lib.hid r1; clear r1
  have H_fa := Lib.hid fa; clear fa
  have H_f3 := Lib.hid f3; clear f3
  have H_hw3 := Lib.hid hw3; clear hw3
  refine (H_hm.out _ H_fa.out).mono ?_
  rintro e w6 ⟨ae, rfl, f6⟩
  have d1 := row_fresh H_d1.out f6
  have d3 := row_fresh H_d3.out f6
  have d4 := row_fresh H_d4.out f6
  have r1 := row_fresh H_r1.out f6
  have fa := fresh_trans H_fa.out f6
  have d3a := fun o => row_fresh d3 ((Keep.refl (fun _ => False) w6).alloc o)
  have d4a := fun o => row_fresh d4 ((Keep.refl (fun _ => False) w6).alloc o)
  have p0 := fun o => row_cell (d3a o) 0
  have p1 := fun o => row_cell (d3a o) 1
  have p2 := fun o => row_cell (d3a o) 2
  have p3 := fun o => row_cell (d4a o) 0
  simp at p0 p1 p2 p3
  have q0 := fun o => (frozen_of_row (w6.alloc o) (g + 1) 0 _ _ (d3a o) : _ = false)
  have q1 := fun o => (frozen_of_row (w6.alloc o) (g + 1) 1 _ _ (d3a o) : _ = false)
  have q2 := fun o => (frozen_of_row (w6.alloc o) (g + 1) 2 _ _ (d3a o) : _ = false)
  have q3 := fun o => (frozen_of_row (w6.alloc o) (g + 1 + 1) 0 _ _ (d4a o) : _ = false)
  clear d3a d4a
  clear H_d1 H_d3 H_d4 H_r1 H_fa
  have H_d1 := Lib.hid d1; clear d1
  have H_d3 := Lib.hid d3; clear d3
  have H_d4 := Lib.hid d4; clear d4
  have H_r1 := Lib.hid r1; clear r1
  have H_fa := Lib.hid fa; clear fa
  have H_f6 := Lib.hid f6; clear f6
  go_wp2_with (fail)
  clear p0 p1 p2 p3 q0 q1 q2 q3
  generalize hw7 : w6.alloc _ = w7
  have f7 : Fresh w6 w7 := by rw [← hw7]; exact (Keep.refl _ _).alloc _
  have d3 := row_fresh H_d3.out f7
  have d4 := row_fresh H_d4.out f7
  have fa := fresh_trans H_fa.out f7
  have p3 := row_cell d4 0
  simp at p3
  clear H_d3 H_d4 H_fa
  have H_d3 := Lib.hid d3; clear d3
  have H_d4 := Lib.hid d4; clear d4
  have H_fa := Lib.hid fa; clear fa
  have H_f7 := Lib.hid f7; clear f7
  have H_hw7 := Lib.hid hw7; clear hw7
  refine leaves_cons (f := 9) (args := #[.pointer (some ⟨g + 1, 0, none⟩), .pointer (some ⟨g + 1 + 1, 0, none⟩)]) (by simp) (by simp [go_sem]) ?_
  refine (FixInvX1_idle _ _ _).mono ?_
  rintro e u' w'' ⟨rfl, rfl, rfl⟩
  refine ⟨.tuple #[.agg #[.bool false, .int .u64 0, .int .i64 0], .int .i64 1], results_cell_cell rfl _ _ (g + 1) 24 #[.bool false, .int .u64 0, .int .i64 0] (0, 0) _ (g + 1 + 1) _ rfl rfl ?_ Tryz.underlying24 rfl (by kernel_rfl) ?_, ?_⟩
  · rw [row_far (by omega)]; exact row3 H_d3.out
  · have hcell : ((((w7.setCell ⟨g + 1, 0, none⟩ (.bool false)).setCell ⟨g + 1, 1, none⟩ (.int .u64 0)).setCell ⟨g + 1, 2, none⟩ (.int .i64 0)).setCell ⟨g + 1 + 1, 0, none⟩ (.int .i64 1)).cell? ⟨g + 1 + 1, 0, none⟩ = some (.int .i64 1) :=
      cell?_setCell_eq rfl (by rw [far3 (by omega) p3]; rfl)
    simp [loadVar, go_sem, hcell]
  · exact ⟨rfl, (H_fa.out.set3 (by have := H_hg.out; omega)).setCell (fun h => by have := H_hg.out; change g + 1 + 1 < w.heap.size at h; omega) _⟩

end Go.Proofs.YtjjolcjeiogdmabGreatDoor

/- govalues: New, MustNew and One at 1; Decimal.Inv given Decimal.Quo. -/
namespace Go.Proofs.YtjjolcjeiogdmabGreatDoor
open Go.RowKit

set_option maxRecDepth 20000 in
set_option maxHeartbeats 2000000 in
theorem New_one (w : World) : Calls Tryz.prog 44 #[.int .i64 1, .int .i64 0] w (VRet w (.tuple #[gd false 0 1, .nilIface])) := by
  go_enter Tryz.func44, Tryz.ntmps44
  go_wp2_with (fail)
  refine (newSafe_any false 0 1 _ (by omega) (by omega)).mono ?_
  rintro e w2 ⟨rfl, hf⟩
  have b := row_fresh (heap_alloc_new w _) hf
  have p0 := row_cell b 0
  have p1 := row_cell b 1
  have p2 := row_cell b 2
  simp at p0 p1 p2
  have q0 : w2.frozen? ⟨w.heap.size, 0, none⟩ = false := frozen_of_row _ _ _ _ _ b
  have q1 : w2.frozen? ⟨w.heap.size, 1, none⟩ = false := frozen_of_row _ _ _ _ _ b
  have q2 : w2.frozen? ⟨w.heap.size, 2, none⟩ = false := frozen_of_row _ _ _ _ _ b
  have H_b := Lib.hid b; clear b
  have H_hf := Lib.hid hf; clear hf
  go_wp2_with (fail)
  refine bodyPost_ret (results_cell_tmp_row rfl _ _ w.heap.size 40 #[.bool false, .int .i8 0, .int .u64 1] (0, 0) _ rfl (row_set (row_set (row_set H_b.out))) Tryz.underlying40 rfl (by kernel_rfl)) rfl ?_
  exact ⟨rfl, Fresh.set3 (fresh_trans ((Keep.refl _ _).alloc _) H_hf.out) (Nat.le_refl _)⟩

set_option maxRecDepth 20000 in
set_option maxHeartbeats 2000000 in
theorem MustNew_one (w : World) : Calls Tryz.prog 33 #[.int .i64 1, .int .i64 0] w (VRet w (gd false 0 1)) := by
  go_enter Tryz.func33, Tryz.ntmps33
  go_wp2_with (fail)
  refine (New_one _).mono ?_
  rintro e w2 ⟨rfl, hf⟩
  have b := row_fresh (heap_alloc_new w _) hf
  have b1 := fun o => row_fresh b ((Keep.refl (fun _ => False) w2).alloc o)
  have p0 := fun o => row_cell (b1 o) 0
  have p1 := fun o => row_cell (b1 o) 1
  have p2 := fun o => row_cell (b1 o) 2
  simp at p0 p1 p2
  have q0 := fun o => (frozen_of_row (w2.alloc o) w.heap.size 0 _ _ (b1 o) : _ = false)
  have q1 := fun o => (frozen_of_row (w2.alloc o) w.heap.size 1 _ _ (b1 o) : _ = false)
  have q2 := fun o => (frozen_of_row (w2.alloc o) w.heap.size 2 _ _ (b1 o) : _ = false)
  clear b1
  have H_b := Lib.hid b; clear b
  have H_hf := Lib.hid hf; clear hf
  go_wp2_with (fail)
  clear p0 p1 p2 q0 q1 q2
  generalize hw3 : w2.alloc _ = w3
  have f3 : Fresh w2 w3 := by rw [← hw3]; exact (Keep.refl _ _).alloc _
  have b3 := row_fresh H_b.out f3
  refine bodyPost_ret (results_cell_row rfl _ _ w.heap.size 40 #[.bool false, .int .i8 0, .int .u64 1] (0, 0) _ rfl (row_set (row_set (row_set b3))) Tryz.underlying40 rfl (by kernel_rfl)) rfl ?_
  exact ⟨rfl, Fresh.set3 (fresh_trans (fresh_trans ((Keep.refl _ _).alloc _) H_hf.out) f3) (Nat.le_refl _)⟩

set_option maxRecDepth 20000 in
set_option maxHeartbeats 2000000 in
theorem One_any (w : World) : Calls Tryz.prog 19 #[] w (VRet w (gd false 0 1)) := by
  go_enter Tryz.func19, Tryz.ntmps19
  go_wp2_with (fail)
  refine (MustNew_one _).mono ?_
  rintro e w2 ⟨rfl, hf⟩
  have b := row_fresh (heap_alloc_new w _) hf
  have p0 := row_cell b 0
  have p1 := row_cell b 1
  have p2 := row_cell b 2
  simp at p0 p1 p2
  have q0 : w2.frozen? ⟨w.heap.size, 0, none⟩ = false := frozen_of_row _ _ _ _ _ b
  have q1 : w2.frozen? ⟨w.heap.size, 1, none⟩ = false := frozen_of_row _ _ _ _ _ b
  have q2 : w2.frozen? ⟨w.heap.size, 2, none⟩ = false := frozen_of_row _ _ _ _ _ b
  have H_b := Lib.hid b; clear b
  have H_hf := Lib.hid hf; clear hf
  go_wp2_with (fail)
  refine bodyPost_ret (results_cell_row rfl _ _ w.heap.size 40 #[.bool false, .int .i8 0, .int .u64 1] (0, 0) _ rfl (row_set (row_set (row_set H_b.out))) Tryz.underlying40 rfl (by kernel_rfl)) rfl ?_
  exact ⟨rfl, Fresh.set3 (fresh_trans ((Keep.refl _ _).alloc _) H_hf.out) (Nat.le_refl _)⟩

end Go.Proofs.YtjjolcjeiogdmabGreatDoor
