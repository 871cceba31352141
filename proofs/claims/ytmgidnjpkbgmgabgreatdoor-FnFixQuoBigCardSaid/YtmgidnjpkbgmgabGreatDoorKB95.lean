/- Quotients: a result, or no room, or not even. -/
import Derived.Test.YtmgidnjpkbgmgabGreatDoorKB5
import Derived.Test.YtmgidnjpkbgmgabGreatDoorKB10
import Derived.Test.YtmgidnjpkbgmgabGreatDoorKB12
import Derived.Test.YtmgidnjpkbgmgabGreatDoorKB15
import Derived.Test.YtmgidnjpkbgmgabGreatDoorKB17
import Derived.Test.YtmgidnjpkbgmgabGreatDoorKB47
import Derived.Test.YtmgidnjpkbgmgabGreatDoorKB55
import Derived.Test.YtmgidnjpkbgmgabGreatDoorKB86
import Derived.Test.YtmgidnjpkbgmgabGreatDoorKB92
import Derived.Test.YtmgidnjpkbgmgabGreatDoorKB93
import Derived.Test.YtmgidnjpkbgmgabGreatDoorKB94
namespace Go.Proofs.YtmgidnjpkbgmgabGreatDoor
open Go.RowKit

theorem quo_abs (m1 m2 : Bool) (c1 x : Nat) : (zfix m1 c1 * zfix m2 x).natAbs = c1 * x := by
  have a1 : (zfix m1 c1).natAbs = c1 := by unfold zfix; split <;> simp
  have a2 : (zfix m2 x).natAbs = x := by unfold zfix; split <;> simp
  rw [Int.natAbs_mul, a1, a2]

theorem quoBint_law (m1 m2 : Bool) (c1 s1 c2 s2 ms : Nat) (hms : ms ≤ 19) (hs1 : s1 ≤ 19) (hs2 : s2 ≤ 19) (hc1 : c1 ≤ 9999999999999999999) (hc2 : c2 ≤ 9999999999999999999) (hc20 : 0 < c2) :
    (¬ okN (zfix m1 c1 * zfix m2 (10 ^ s2)).natAbs (10 ^ s1 * c2) ms ∧ ∀ w, Glob w → Pow10s w → Calls Tryz.prog 87 #[gd m1 s1 c1, gd m2 s2 c2, .int .i64 ms] w (ClampErr w)) ∨
    ∃ nz sz cz, (∀ w, Glob w → Pow10s w → Calls Tryz.prog 87 #[gd m1 s1 c1, gd m2 s2 c2, .int .i64 ms] w (VRet w (.tuple #[gd nz sz cz, .nilIface]))) ∧ ResOK (zfix m1 c1 * zfix m2 (10 ^ s2)) (10 ^ s1 * c2) ms nz sz cz := by
  have hd : 0 < 10 ^ s1 * c2 := Nat.mul_pos (Nat.pow_pos (by omega)) hc20
  have hsn := mul_sign m1 m2 c1 (10 ^ s2)
  obtain ⟨k, hk⟩ : ∃ k, k = 41 + s2 - s1 := ⟨_, rfl⟩
  have hCe : c1 * 10 ^ s2 * 10 ^ 41 / (10 ^ s1 * c2) = c1 * 10 ^ k / c2 := by
    have e1 : c1 * 10 ^ s2 * 10 ^ 41 = c1 * 10 ^ k * 10 ^ s1 := by
      rw [Nat.mul_assoc, Nat.mul_assoc, ← Nat.pow_add, ← Nat.pow_add]; congr 2; omega
    rw [e1, Nat.mul_comm (10 ^ s1) c2, Nat.mul_div_mul_right _ _ (Nat.pow_pos (by omega))]
  have hr : ∀ j, 22 ≤ j → j ≤ 41 → rhe ((zfix m1 c1 * zfix m2 (10 ^ s2)).natAbs * 10 ^ (41 - j)) (10 ^ s1 * c2) = rhe (c1 * 10 ^ k / c2) (10 ^ j) := fun j h1 h2 => by
    rw [quo_abs, ← hCe]
    exact quo_rhe hs1 hc20 hc2 h1 h2
  have hfl : c1 * 10 ^ k / c2 * (10 ^ s1 * c2) ≤ (zfix m1 c1 * zfix m2 (10 ^ s2)).natAbs * 10 ^ 41 := by
    rw [quo_abs, ← hCe]
    exact Nat.div_mul_le_self _ _
  have hC80 : c1 * 10 ^ k / c2 < 10 ^ 80 := by
    refine Nat.lt_of_le_of_lt (Nat.div_le_self _ _) ?_
    have h1 : 10 ^ k ≤ 10 ^ 60 := Nat.pow_le_pow_right (by omega) (by omega)
    have h2 : c1 * 10 ^ k ≤ 10 ^ 19 * 10 ^ 60 := Nat.mul_le_mul (Nat.le_trans hc1 (by decide)) h1
    rw [← Nat.pow_add] at h2
    exact Nat.lt_of_le_of_lt h2 (Nat.pow_lt_pow_right (by omega) (by omega))
  obtain ⟨p, hp80, hp⟩ := isPrec_ex 80 _ hC80
  have hnb : ∀ w, Glob w → Pow10s w → ∀ V v, Fresh w V → (∀ k, v.ownBlock = some k → w.heap.size + 5 ≤ k) → BI V (w.heap.size + 3) v (c1 * 10 ^ k / c2) →
      Calls Tryz.prog 98 #[.bool (m1 != m2), .pointer (some ⟨w.heap.size + 3, 0, none⟩), .int .i64 41, .int .i64 ms] V (NBRet V (w.heap.size + 3) v (m1 != m2) (nbOut (c1 * 10 ^ k / c2) p 41 ms)) :=
    fun w hG hP V v hf hv hz => newFromBintL_any w V (m1 != m2) (w.heap.size + 3) _ p 41 ms v hG hP hf (by omega) (fun k h => by have := hv k h; omega) hp hp80 (by omega) hms hz
  have go := fun w hG hP nz sz cz Pv h => quoBint_go m1 m2 c1 s1 c2 s2 k w hG hP ms hs1 hs2 hc1 hc2 hc20 hk nz sz cz Pv h
  rcases ho : nbOut (c1 * 10 ^ k / c2) p 41 ms with _ | ⟨c, s⟩
  · rw [ho] at hnb
    exact .inl ⟨nbT_out_none hfl hr hd hp hms ho, fun w hG hP => (go w hG hP false 0 0 AnErr (hnb w hG hP)).mono (fun _ _ h => h.err)⟩
  · rw [ho] at hnb
    obtain ⟨g1, g2⟩ := nbT_out_some hfl hr hd hp hms ho
    exact .inr ⟨_, s, c, fun w hG hP => (go w hG hP ((m1 != m2) && decide (0 < c)) s c NoErr (hnb w hG hP)).mono (fun _ _ h => h.ok), res_ok hd g1 g2 hsn.1 hsn.2⟩

end Go.Proofs.YtmgidnjpkbgmgabGreatDoor

/- govalues.Decimal.QuoExact, Quo. -/
namespace Go.Proofs.YtmgidnjpkbgmgabGreatDoor
open Go.RowKit

end Go.Proofs.YtmgidnjpkbgmgabGreatDoor

/- govalues.Decimal.QuoExact: the faults; Quo. -/
namespace Go.Proofs.YtmgidnjpkbgmgabGreatDoor
open Go.RowKit

end Go.Proofs.YtmgidnjpkbgmgabGreatDoor

/- govalues.Decimal.QuoExact of zero. -/
namespace Go.Proofs.YtmgidnjpkbgmgabGreatDoor
open Go.RowKit

end Go.Proofs.YtmgidnjpkbgmgabGreatDoor

/- The contract of impl.FixQuo. -/
namespace Go.Proofs.YtmgidnjpkbgmgabGreatDoor
open Go.RowKit

end Go.Proofs.YtmgidnjpkbgmgabGreatDoor

/- The walk of FnFixQuo. -/
namespace Go.Proofs.YtmgidnjpkbgmgabGreatDoor
open Go.RowKit

theorem zten_spow {n : Bool} {s : Nat} (hs : s ≤ 19) : (zfix n (10 ^ s)).natAbs < spow 1000 := by
  have e : (zfix n (10 ^ s)).natAbs = 10 ^ s := by unfold zfix; split <;> simp
  rw [e]
  exact ten_spow hs

theorem c_spow {c : Nat} (hc : c ≤ 9999999999999999999) : c < spow 1000 :=
  Nat.lt_of_le_of_lt hc (Nat.lt_of_lt_of_le (show 9999999999999999999 < spow 5 by decide) (spow_mono (by omega)))

theorem inv_quo {n2 : Bool} {c2 s2 : Nat} (h : 0 < c2) (x : Value) (W : World) (hx : SFr W x (zfix n2 c2) (10 ^ s2)) : Calls Tryz.prog 26 #[x] W (FRet W (zfix n2 (10 ^ s2)) c2) := by
  have hi := FracInverse_any x _ _ W hx
  have e1 : (zfix n2 c2).natAbs = c2 := by unfold zfix; split <;> simp
  have e2 : (if zfix n2 c2 < 0 then -((10 ^ s2 : Nat) : Int) else ((10 ^ s2 : Nat) : Int)) = zfix n2 (10 ^ s2) := by
    unfold zfix
    cases n2
    · rw [if_neg (by simp)]; rfl
    · rw [if_pos (by simp; omega)]; rfl
  rw [e1, e2] at hi
  exact hi

end Go.Proofs.YtmgidnjpkbgmgabGreatDoor

/- FnFixQuo: every way. -/
namespace Go.Proofs.YtmgidnjpkbgmgabGreatDoor
open Go.RowKit

theorem quo_bounds {n1 n2 : Bool} {c1 s1 c2 s2 : Nat} (hs1 : s1 ≤ 19) (hs2 : s2 ≤ 19) (hc1 : c1 ≤ 9999999999999999999) (hc2 : c2 ≤ 9999999999999999999) (h0 : 0 < c2) :
    0 < 10 ^ s1 * c2 ∧ 10 ^ s1 * c2 < spow 300 ∧ (zfix n1 c1 * zfix n2 (10 ^ s2)).natAbs < spow 300 := by
  have e5 : spow 5 ≤ spow 300 := spow_mono (by omega)
  have p1 : 10 ^ s1 ≤ 10 ^ 19 := Nat.pow_le_pow_right (by omega) hs1
  have p2 : 10 ^ s2 ≤ 10 ^ 19 := Nat.pow_le_pow_right (by omega) hs2
  refine ⟨Nat.mul_pos (Nat.pow_pos (by omega)) h0, Nat.lt_of_le_of_lt (Nat.mul_le_mul p1 hc2) (Nat.lt_of_lt_of_le (by decide) e5), ?_⟩
  rw [quo_abs]
  exact Nat.lt_of_le_of_lt (Nat.mul_le_mul hc1 p2) (Nat.lt_of_lt_of_le (by decide) e5)

end Go.Proofs.YtmgidnjpkbgmgabGreatDoor

/- govalues' door ZzQuoBig; the contract of impl.FixQuoBig. -/
namespace Go.Proofs.YtmgidnjpkbgmgabGreatDoor
open Go.RowKit

set_option maxRecDepth 20000 in
set_option maxHeartbeats 2000000 in
theorem ZzQuoBig_go (m1 m2 nz : Bool) (c1 s1 c2 s2 ms : Nat) (w : World) (sz cz : Nat) (Pv : Value → Prop) (hnf : ∀ W, Fresh w W → Calls Tryz.prog 87 #[gd m1 s1 c1, gd m2 s2 c2, .int .i64 ms] W (DOut W nz sz cz Pv)) :
    Calls Tryz.prog 55 #[gd m1 s1 c1, gd m2 s2 c2, .int .i64 ms] w (DOut w nz sz cz Pv) := by
  obtain ⟨g, hg⟩ : ∃ g, g = w.heap.size := ⟨_, rfl⟩
  have bx := boxes3 w #[.bool m1, .int .i8 s1, .int .u64 c1] #[.bool m2, .int .i8 s2, .int .u64 c2] #[.bool false, .int .i8 0, .int .u64 0] 60 60 60 g hg
  have H_bx := Lib.hid bx; clear bx
  have H_hnf := Lib.hid hnf; clear hnf
  go_enter Tryz.func55, Tryz.ntmps55
  go_wp2_with (fail)
  generalize hw1 : ((w.alloc _).alloc _).alloc _ = w1
  rw [← hg]
  obtain ⟨r1, r2, r3, fa, _⟩ := H_bx.out w1 hw1
  obtain ⟨k0, k1, k2, k3, k4, k5⟩ := cells6 r1 r2
  have H_r1 := Lib.hid r1; clear r1
  have H_r2 := Lib.hid r2; clear r2
  have H_r3 := Lib.hid r3; clear r3
  have H_fa := Lib.hid fa; clear fa
  have H_hw1 := Lib.hid hw1; clear hw1
  have H_hg := Lib.hid hg; clear hg
  go_wp2_with (fail)
  refine (H_hnf.out _ H_fa.out).mono ?_
  rintro e w2 ⟨ev, rfl, hev, f9⟩
  have r3 := row_fresh H_r3.out f9
  have p0 := row_cell r3 0
  have p1 := row_cell r3 1
  have p2 := row_cell r3 2
  simp at p0 p1 p2
  have z0 : w2.frozen? ⟨g + 1 + 1, 0, none⟩ = false := frozen_of_row _ _ _ _ _ r3
  have z1 : w2.frozen? ⟨g + 1 + 1, 1, none⟩ = false := frozen_of_row _ _ _ _ _ r3
  have z2 : w2.frozen? ⟨g + 1 + 1, 2, none⟩ = false := frozen_of_row _ _ _ _ _ r3
  have fa := fresh_trans H_fa.out f9
  clear H_r3 H_fa f9 k0 k1 k2 k3 k4 k5
  have H_r3 := Lib.hid r3; clear r3
  have H_fa := Lib.hid fa; clear fa
  have H_hev := Lib.hid hev; clear hev
  go_wp2_with (fail)
  refine bodyPost_ret (results_cell_tmp_row rfl _ _ (g + 1 + 1) 60 #[.bool nz, .int .i8 sz, .int .u64 cz] (0, 0) _ rfl (row_set (row_set (row_set H_r3.out))) Tryz.underlying60 rfl (by kernel_rfl)) rfl ?_
  exact ⟨ev, rfl, H_hev.out, Fresh.set3 H_fa.out (by have := H_hg.out; omega)⟩

theorem FixQuoBig1_idle (p q : Addr) (w : World) :
    CallsD Tryz.prog 54 #[.pointer (some p), .pointer (some q)] .returning w fun e u' w' => e = .returned (.tuple #[]) ∧ u' = .returning ∧ w' = w := by
  refine callsD_of_wpS Tryz.func54 rfl fun c₀ cs hu => ?_
  apply wpS_seq
  apply wpS_region
  simp [wpOpsS, go_sem, recoverD, hu, Tryz.ntmps54, Exit.thenS]
  refine wpS_cond (t := false) (by simp [Act.eval, Array.replicate]) ?_
  simp only [Bool.false_eq_true, if_false]
  refine wpS_of_wp (wp_skip ?_)
  cases c₀
  simp_all [bodyPostS, results, Tryz.results54]

set_option maxRecDepth 20000 in
set_option maxHeartbeats 4000000 in
theorem FixQuoBig_ok (n1 n2 nz : Bool) (c1 s1 c2 s2 cz sz : Nat) (sc : Nat) (hsc : sc ≤ 19) (w : World) (hs1 : s1 ≤ 19) (hs2 : s2 ≤ 19) (hc1 : c1 ≤ 9999999999999999999) (hc2 : c2 ≤ 9999999999999999999) (hc20 : 0 < c2) (hsz : sz ≤ 19)
    (hm : ∀ W, Fresh w W → Calls Tryz.prog 55 #[gd (n1 && decide (0 < c1)) s1 c1, gd (n2 && decide (0 < c2)) s2 c2, .int .i64 sc] W (VRet W (.tuple #[gd nz sz cz, .nilIface]))) :
    Calls Tryz.prog 23 #[fx n1 c1 s1, fx n2 c2 s2, .int .i64 sc] w (VRet w (.tuple #[fx nz cz sz, .int .i64 0])) := by
  have hmf : ∀ (fn : Fn) (first cap : Array Value) (w : World), (Instr.makeFunc fn first cap).run Tryz.prog w = .ok (.func fn first cap) w := fun _ _ _ _ => rfl
  have hz2 : ((c2 : Int) == 0) = false := by rw [beq_eq_false_iff_ne]; omega
  have hz3 : ¬ c2 = 0 := by omega
  obtain ⟨m1, e1⟩ : ∃ n, n = (n1 && decide (0 < c1)) := ⟨_, rfl⟩
  obtain ⟨m2, e2⟩ : ∃ n, n = (n2 && decide (0 < c2)) := ⟨_, rfl⟩
  rw [← e1, ← e2] at hm
  have t1 : decide ((sc : Int) < 0) = false := by simp
  have t2 : decide (19 < (sc : Int)) = false := by simp; omega
  have H_hm := Lib.hid hm; clear hm
  have H_e1 := Lib.hid e1; clear e1
  have H_e2 := Lib.hid e2; clear e2
  go_enter_defers Tryz.func23, Tryz.ntmps23
  go_wp2_with (fail)
  obtain ⟨g, hg⟩ : ∃ g, g = w.heap.size := ⟨_, rfl⟩
  have bx := boxes4 w #[.bool n1, .int .u64 c1, .int .i64 s1] #[.bool n2, .int .u64 c2, .int .i64 s2] #[.bool false, .int .u64 0, .int .i64 0] #[.int .i64 0] 24 24 24 3 g hg
  have H_bx := Lib.hid bx; clear bx
  generalize hw1 : (((w.alloc _).alloc _).alloc _).alloc _ = w1
  rw [← hg]
  obtain ⟨d1, d2, d3, d4, fa⟩ := H_bx.out w1 hw1
  have H_d1 := Lib.hid d1; clear d1
  have H_d2 := Lib.hid d2; clear d2
  have H_d3 := Lib.hid d3; clear d3
  have H_d4 := Lib.hid d4; clear d4
  have H_fa := Lib.hid fa; clear fa
  have H_hw1 := Lib.hid hw1; clear hw1
  have H_hg := Lib.hid hg; clear hg
  refine (fixed_any n1 s1 c1 _ hs1 hc1).mono ?_
  rintro e w2 ⟨rfl, f2⟩
  rw [← H_e1.out]
  have d1 := row_fresh H_d1.out f2
  have d2 := row_fresh H_d2.out f2
  have d3 := row_fresh H_d3.out f2
  have d4 := row_fresh H_d4.out f2
  have fa := fresh_trans H_fa.out f2
  obtain ⟨h1, hh1⟩ : ∃ h, h = w2.heap.size := ⟨_, rfl⟩
  have ak0 := row_cell d2 0
  have ak1 := row_cell d2 1
  have ak2 := row_cell d2 2
  simp at ak0 ak1 ak2
  have a0 := fun o => cell_fresh ak0 ((Keep.refl (fun _ => False) w2).alloc o)
  have a1 := fun o => cell_fresh ak1 ((Keep.refl (fun _ => False) w2).alloc o)
  have a2 := fun o => cell_fresh ak2 ((Keep.refl (fun _ => False) w2).alloc o)
  clear ak0 ak1 ak2
  clear H_d1 H_d2 H_d3 H_d4 H_fa
  have H_d1 := Lib.hid d1; clear d1
  have H_d2 := Lib.hid d2; clear d2
  have H_d3 := Lib.hid d3; clear d3
  have H_d4 := Lib.hid d4; clear d4
  have H_fa := Lib.hid fa; clear fa
  have H_f2 := Lib.hid f2; clear f2
  have H_hh1 := Lib.hid hh1; clear hh1
  go_wp2_with (fail)
  generalize hw3 : w2.alloc _ = w3
  have f3 : Fresh w2 w3 := by rw [← hw3]; exact (Keep.refl _ _).alloc _
  have r1 : w3.heap[h1]? = some (.cells #[.bool m1, .int .i8 s1, .int .u64 c1] 60 (0, 0)) := by rw [← hw3, H_hh1.out]; exact heap_alloc_new w2 _
  rw [← H_hh1.out]
  have d1 := row_fresh H_d1.out f3
  have d2 := row_fresh H_d2.out f3
  have d3 := row_fresh H_d3.out f3
  have d4 := row_fresh H_d4.out f3
  have fa := fresh_trans H_fa.out f3
  clear a0 a1 a2
  clear H_d1 H_d2 H_d3 H_d4 H_fa
  have H_d1 := Lib.hid d1; clear d1
  have H_d2 := Lib.hid d2; clear d2
  have H_d3 := Lib.hid d3; clear d3
  have H_d4 := Lib.hid d4; clear d4
  have H_r1 := Lib.hid r1; clear r1
  have H_fa := Lib.hid fa; clear fa
  have H_f3 := Lib.hid f3; clear f3
  have H_hw3 := Lib.hid hw3; clear hw3
  refine (fixed_any n2 s2 c2 _ hs2 hc2).mono ?_
  rintro e w4 ⟨rfl, f4⟩
  rw [← H_e2.out]
  have d1 := row_fresh H_d1.out f4
  have d2 := row_fresh H_d2.out f4
  have d3 := row_fresh H_d3.out f4
  have d4 := row_fresh H_d4.out f4
  have r1 := row_fresh H_r1.out f4
  have fa := fresh_trans H_fa.out f4
  obtain ⟨h2, hh2⟩ : ∃ h, h = w4.heap.size := ⟨_, rfl⟩
  have ec0 := row_cell d2 1
  simp at ec0
  have ec := fun o => cell_fresh ec0 ((Keep.refl (fun _ => False) w4).alloc o)
  clear ec0
  have ak0 := row_cell r1 0
  have ak1 := row_cell r1 1
  have ak2 := row_cell r1 2
  simp at ak0 ak1 ak2
  have a0 := fun o => cell_fresh ak0 ((Keep.refl (fun _ => False) w4).alloc o)
  have a1 := fun o => cell_fresh ak1 ((Keep.refl (fun _ => False) w4).alloc o)
  have a2 := fun o => cell_fresh ak2 ((Keep.refl (fun _ => False) w4).alloc o)
  clear ak0 ak1 ak2
  clear H_d1 H_d2 H_d3 H_d4 H_r1 H_fa
  have H_d1 := Lib.hid d1; clear d1
  have H_d2 := Lib.hid d2; clear d2
  have H_d3 := Lib.hid d3; clear d3
  have H_d4 := Lib.hid d4; clear d4
  have H_r1 := Lib.hid r1; clear r1
  have H_fa := Lib.hid fa; clear fa
  have H_f4 := Lib.hid f4; clear f4
  have H_hh2 := Lib.hid hh2; clear hh2
  go_wp2_with (fail)
  generalize hw5 : w4.alloc _ = w5
  have f5 : Fresh w4 w5 := by rw [← hw5]; exact (Keep.refl _ _).alloc _
  have r2 : w5.heap[h2]? = some (.cells #[.bool m2, .int .i8 s2, .int .u64 c2] 60 (0, 0)) := by rw [← hw5, H_hh2.out]; exact heap_alloc_new w4 _
  rw [← H_hh2.out]
  have d1 := row_fresh H_d1.out f5
  have d2 := row_fresh H_d2.out f5
  have d3 := row_fresh H_d3.out f5
  have d4 := row_fresh H_d4.out f5
  have r1 := row_fresh H_r1.out f5
  have fa := fresh_trans H_fa.out f5
  clear a0 a1 a2
  clear H_d1 H_d2 H_d3 H_d4 H_r1 H_fa
  have H_d1 := Lib.hid d1; clear d1
  have H_d2 := Lib.hid d2; clear d2
  have H_d3 := Lib.hid d3; clear d3
  have H_d4 := Lib.hid d4; clear d4
  have H_r1 := Lib.hid r1; clear r1
  have H_r2 := Lib.hid r2; clear r2
  have H_fa := Lib.hid fa; clear fa
  have H_f5 := Lib.hid f5; clear f5
  have H_hw5 := Lib.hid hw5; clear hw5
  refine (H_hm.out _ H_fa.out).mono ?_
  rintro e w6 ⟨rfl, f6⟩
  have d1 := row_fresh H_d1.out f6
  have d2 := row_fresh H_d2.out f6
  have d3 := row_fresh H_d3.out f6
  have d4 := row_fresh H_d4.out f6
  have r1 := row_fresh H_r1.out f6
  have r2 := row_fresh H_r2.out f6
  have fa := fresh_trans H_fa.out f6
  clear H_d1 H_d2 H_d3 H_d4 H_r1 H_r2 H_fa
  have H_d1 := Lib.hid d1; clear d1
  have H_d2 := Lib.hid d2; clear d2
  have H_d3 := Lib.hid d3; clear d3
  have H_d4 := Lib.hid d4; clear d4
  have H_r1 := Lib.hid r1; clear r1
  have H_r2 := Lib.hid r2; clear r2
  have H_fa := Lib.hid fa; clear fa
  have H_f6 := Lib.hid f6; clear f6
  go_wp2_with (fail)
  generalize hw7 : w6.alloc _ = w7
  have f7 : Fresh w6 w7 := by rw [← hw7]; exact (Keep.refl _ _).alloc _
  have d1 := row_fresh H_d1.out f7
  have d2 := row_fresh H_d2.out f7
  have d3 := row_fresh H_d3.out f7
  have d4 := row_fresh H_d4.out f7
  have r1 := row_fresh H_r1.out f7
  have r2 := row_fresh H_r2.out f7
  have fa := fresh_trans H_fa.out f7
  clear H_d1 H_d2 H_d3 H_d4 H_r1 H_r2 H_fa
  have H_d1 := Lib.hid d1; clear d1
  have H_d2 := Lib.hid d2; clear d2
  have H_d3 := Lib.hid d3; clear d3
  have H_d4 := Lib.hid d4; clear d4
  have H_r1 := Lib.hid r1; clear r1
  have H_r2 := Lib.hid r2; clear r2
  have H_fa := Lib.hid fa; clear fa
  have H_f7 := Lib.hid f7; clear f7
  have H_hw7 := Lib.hid hw7; clear hw7
  refine (fix_any nz sz cz _ hsz).mono ?_
  rintro e w8 ⟨rfl, f8⟩
  have d1 := row_fresh H_d1.out f8
  have d2 := row_fresh H_d2.out f8
  have d3 := row_fresh H_d3.out f8
  have d4 := row_fresh H_d4.out f8
  have r1 := row_fresh H_r1.out f8
  have r2 := row_fresh H_r2.out f8
  have fa := fresh_trans H_fa.out f8
  have p0 := row_cell d3 0
  have p1 := row_cell d3 1
  have p2 := row_cell d3 2
  have p3 := row_cell d4 0
  simp at p0 p1 p2 p3
  have q0 : w8.frozen? ⟨g + 1 + 1, 0, none⟩ = false := frozen_of_row _ _ _ _ _ d3
  have q1 : w8.frozen? ⟨g + 1 + 1, 1, none⟩ = false := frozen_of_row _ _ _ _ _ d3
  have q2 : w8.frozen? ⟨g + 1 + 1, 2, none⟩ = false := frozen_of_row _ _ _ _ _ d3
  have q3 : w8.frozen? ⟨g + 1 + 1 + 1, 0, none⟩ = false := frozen_of_row _ _ _ _ _ d4
  clear H_d1 H_d2 H_d3 H_d4 H_r1 H_r2 H_fa
  have H_d1 := Lib.hid d1; clear d1
  have H_d2 := Lib.hid d2; clear d2
  have H_d3 := Lib.hid d3; clear d3
  have H_d4 := Lib.hid d4; clear d4
  have H_r1 := Lib.hid r1; clear r1
  have H_r2 := Lib.hid r2; clear r2
  have H_fa := Lib.hid fa; clear fa
  have H_f8 := Lib.hid f8; clear f8
  go_wp2_with (fail)
  refine leaves_cons (f := 54) (args := #[.pointer (some ⟨g + 1 + 1, 0, none⟩), .pointer (some ⟨g + 1 + 1 + 1, 0, none⟩)]) (by simp) (by simp [go_sem]) ?_
  refine (FixQuoBig1_idle _ _ _).mono ?_
  rintro e u' w'' ⟨rfl, rfl, rfl⟩
  refine ⟨.tuple #[fx nz cz sz, .int .i64 0], results_cell_cell rfl _ _ (g + 1 + 1) 24 #[.bool nz, .int .u64 cz, .int .i64 sz] (0, 0) _ (g + 1 + 1 + 1) _ rfl rfl ?_ Tryz.underlying24 rfl (by kernel_rfl) ?_, ?_⟩
  · rw [row_far (by omega)]; exact row3 H_d3.out
  · have hcell : ((((w8.setCell ⟨g + 1 + 1, 0, none⟩ (.bool nz)).setCell ⟨g + 1 + 1, 1, none⟩ (.int .u64 cz)).setCell ⟨g + 1 + 1, 2, none⟩ (.int .i64 sz)).setCell ⟨g + 1 + 1 + 1, 0, none⟩ (.int .i64 0)).cell? ⟨g + 1 + 1 + 1, 0, none⟩ = some (.int .i64 0) :=
      cell?_setCell_eq rfl (by rw [far3 (by omega) p3]; rfl)
    simp [loadVar, go_sem, hcell]
  · exact ⟨rfl, (H_fa.out.set3 (by have := H_hg.out; omega)).setCell (fun h => by have := H_hg.out; change g + 1 + 1 + 1 < w.heap.size at h; omega) _⟩

set_option maxRecDepth 20000 in
set_option maxHeartbeats 4000000 in
theorem FixQuoBig_err (n1 n2 : Bool) (c1 s1 c2 s2 : Nat) (sc : Nat) (hsc : sc ≤ 19) (w : World) (hs1 : s1 ≤ 19) (hs2 : s2 ≤ 19) (hc1 : c1 ≤ 9999999999999999999) (hc2 : c2 ≤ 9999999999999999999) (hc20 : 0 < c2) 
    (hm : ∀ W, Fresh w W → Calls Tryz.prog 55 #[gd (n1 && decide (0 < c1)) s1 c1, gd (n2 && decide (0 < c2)) s2 c2, .int .i64 sc] W (ClampErr W)) :
    Calls Tryz.prog 23 #[fx n1 c1 s1, fx n2 c2 s2, .int .i64 sc] w (VRet w (.tuple #[.agg #[.bool false, .int .u64 0, .int .i64 0], .int .i64 1])) := by
  have hmf : ∀ (fn : Fn) (first cap : Array Value) (w : World), (Instr.makeFunc fn first cap).run Tryz.prog w = .ok (.func fn first cap) w := fun _ _ _ _ => rfl
  have hz2 : ((c2 : Int) == 0) = false := by rw [beq_eq_false_iff_ne]; omega
  have hz3 : ¬ c2 = 0 := by omega
  obtain ⟨m1, e1⟩ : ∃ n, n = (n1 && decide (0 < c1)) := ⟨_, rfl⟩
  obtain ⟨m2, e2⟩ : ∃ n, n = (n2 && decide (0 < c2)) := ⟨_, rfl⟩
  rw [← e1, ← e2] at hm
  have t1 : decide ((sc : Int) < 0) = false := by simp
  have t2 : decide (19 < (sc : Int)) = false := by simp; omega
  have H_hm := Lib.hid hm; clear hm
  have H_e1 := Lib.hid e1; clear e1
  have H_e2 := Lib.hid e2; clear e2
  go_enter_defers Tryz.func23, Tryz.ntmps23
  go_wp2_with (fail)
  obtain ⟨g, hg⟩ : ∃ g, g = w.heap.size := ⟨_, rfl⟩
  have bx := boxes4 w #[.bool n1, .int .u64 c1, .int .i64 s1] #[.bool n2, .int .u64 c2, .int .i64 s2] #[.bool false, .int .u64 0, .int .i64 0] #[.int .i64 0] 24 24 24 3 g hg
  have H_bx := Lib.hid bx; clear bx
  generalize hw1 : (((w.alloc _).alloc _).alloc _).alloc _ = w1
  rw [← hg]
  obtain ⟨d1, d2, d3, d4, fa⟩ := H_bx.out w1 hw1
  have H_d1 := Lib.hid d1; clear d1
  have H_d2 := Lib.hid d2; clear d2
  have H_d3 := Lib.hid d3; clear d3
  have H_d4 := Lib.hid d4; clear d4
  have H_fa := Lib.hid fa; clear fa
  have H_hw1 := Lib.hid hw1; clear hw1
  have H_hg := Lib.hid hg; clear hg
  refine (fixed_any n1 s1 c1 _ hs1 hc1).mono ?_
  rintro e w2 ⟨rfl, f2⟩
  rw [← H_e1.out]
  have d1 := row_fresh H_d1.out f2
  have d2 := row_fresh H_d2.out f2
  have d3 := row_fresh H_d3.out f2
  have d4 := row_fresh H_d4.out f2
  have fa := fresh_trans H_fa.out f2
  obtain ⟨h1, hh1⟩ : ∃ h, h = w2.heap.size := ⟨_, rfl⟩
  have ak0 := row_cell d2 0
  have ak1 := row_cell d2 1
  have ak2 := row_cell d2 2
  simp at ak0 ak1 ak2
  have a0 := fun o => cell_fresh ak0 ((Keep.refl (fun _ => False) w2).alloc o)
  have a1 := fun o => cell_fresh ak1 ((Keep.refl (fun _ => False) w2).alloc o)
  have a2 := fun o => cell_fresh ak2 ((Keep.refl (fun _ => False) w2).alloc o)
  clear ak0 ak1 ak2
  clear H_d1 H_d2 H_d3 H_d4 H_fa
  have H_d1 := Lib.hid d1; clear d1
  have H_d2 := Lib.hid d2; clear d2
  have H_d3 := Lib.hid d3; clear d3
  have H_d4 := Lib.hid d4; clear d4
  have H_fa := Lib.hid fa; clear fa
  have H_f2 := Lib.hid f2; clear f2
  have H_hh1 := Lib.hid hh1; clear hh1
  go_wp2_with (fail)
  generalize hw3 : w2.alloc _ = w3
  have f3 : Fresh w2 w3 := by rw [← hw3]; exact (Keep.refl _ _).alloc _
  have r1 : w3.heap[h1]? = some (.cells #[.bool m1, .int .i8 s1, .int .u64 c1] 60 (0, 0)) := by rw [← hw3, H_hh1.out]; exact heap_alloc_new w2 _
  rw [← H_hh1.out]
  have d1 := row_fresh H_d1.out f3
  have d2 := row_fresh H_d2.out f3
  have d3 := row_fresh H_d3.out f3
  have d4 := row_fresh H_d4.out f3
  have fa := fresh_trans H_fa.out f3
  clear a0 a1 a2
  clear H_d1 H_d2 H_d3 H_d4 H_fa
  have H_d1 := Lib.hid d1; clear d1
  have H_d2 := Lib.hid d2; clear d2
  have H_d3 := Lib.hid d3; clear d3
  have H_d4 := Lib.hid d4; clear d4
  have H_r1 := Lib.hid r1; clear r1
  have H_fa := Lib.hid fa; clear fa
  have H_f3 := Lib.hid f3; clear f3
  have H_hw3 := Lib.hid hw3; clear hw3
  refine (fixed_any n2 s2 c2 _ hs2 hc2).mono ?_
  rintro e w4 ⟨rfl, f4⟩
  rw [← H_e2.out]
  have d1 := row_fresh H_d1.out f4
  have d2 := row_fresh H_d2.out f4
  have d3 := row_fresh H_d3.out f4
  have d4 := row_fresh H_d4.out f4
  have r1 := row_fresh H_r1.out f4
  have fa := fresh_trans H_fa.out f4
  obtain ⟨h2, hh2⟩ : ∃ h, h = w4.heap.size := ⟨_, rfl⟩
  have ec0 := row_cell d2 1
  simp at ec0
  have ec := fun o => cell_fresh ec0 ((Keep.refl (fun _ => False) w4).alloc o)
  clear ec0
  have ak0 := row_cell r1 0
  have ak1 := row_cell r1 1
  have ak2 := row_cell r1 2
  simp at ak0 ak1 ak2
  have a0 := fun o => cell_fresh ak0 ((Keep.refl (fun _ => False) w4).alloc o)
  have a1 := fun o => cell_fresh ak1 ((Keep.refl (fun _ => False) w4).alloc o)
  have a2 := fun o => cell_fresh ak2 ((Keep.refl (fun _ => False) w4).alloc o)
  clear ak0 ak1 ak2
  clear H_d1 H_d2 H_d3 H_d4 H_r1 H_fa
  have H_d1 := Lib.hid d1; clear d1
  have H_d2 := Lib.hid d2; clear d2
  have H_d3 := Lib.hid d3; clear d3
  have H_d4 := Lib.hid d4; clear d4
  have H_r1 := Lib.hid r1; clear r1
  have H_fa := Lib.hid fa; clear fa
  have H_f4 := Lib.hid f4; clear f4
  have H_hh2 := Lib.hid hh2; clear hh2
  go_wp2_with (fail)
  generalize hw5 : w4.alloc _ = w5
  have f5 : Fresh w4 w5 := by rw [← hw5]; exact (Keep.refl _ _).alloc _
  have r2 : w5.heap[h2]? = some (.cells #[.bool m2, .int .i8 s2, .int .u64 c2] 60 (0, 0)) := by rw [← hw5, H_hh2.out]; exact heap_alloc_new w4 _
  rw [← H_hh2.out]
  have d1 := row_fresh H_d1.out f5
  have d2 := row_fresh H_d2.out f5
  have d3 := row_fresh H_d3.out f5
  have d4 := row_fresh H_d4.out f5
  have r1 := row_fresh H_r1.out f5
  have fa := fresh_trans H_fa.out f5
  clear a0 a1 a2
  clear H_d1 H_d2 H_d3 H_d4 H_r1 H_fa
  have H_d1 := Lib.hid d1; clear d1
  have H_d2 := Lib.hid d2; clear d2
  have H_d3 := Lib.hid d3; clear d3
  have H_d4 := Lib.hid d4; clear d4
  have H_r1 := Lib.hid r1; clear r1
  have H_r2 := Lib.hid r2; clear r2
  have H_fa := Lib.hid fa; clear fa
  have H_f5 := Lib.hid f5; clear f5
  have H_hw5 := Lib.hid hw5; clear hw5
  refine (H_hm.out _ H_fa.out).mono ?_
  rintro e w6 ⟨ae, rfl, f6⟩
  have d1 := row_fresh H_d1.out f6
  have d2 := row_fresh H_d2.out f6
  have d3 := row_fresh H_d3.out f6
  have d4 := row_fresh H_d4.out f6
  have r1 := row_fresh H_r1.out f6
  have r2 := row_fresh H_r2.out f6
  have fa := fresh_trans H_fa.out f6
  have d3a := fun o => row_fresh d3 ((Keep.refl (fun _ => False) w6).alloc o)
  have d4a := fun o => row_fresh d4 ((Keep.refl (fun _ => False) w6).alloc o)
  have p0 := fun o => row_cell (d3a o) 0
  have p1 := fun o => row_cell (d3a o) 1
  have p2 := fun o => row_cell (d3a o) 2
  have p3 := fun o => row_cell (d4a o) 0
  simp at p0 p1 p2 p3
  have q0 := fun o => (frozen_of_row (w6.alloc o) (g + 1 + 1) 0 _ _ (d3a o) : _ = false)
  have q1 := fun o => (frozen_of_row (w6.alloc o) (g + 1 + 1) 1 _ _ (d3a o) : _ = false)
  have q2 := fun o => (frozen_of_row (w6.alloc o) (g + 1 + 1) 2 _ _ (d3a o) : _ = false)
  have q3 := fun o => (frozen_of_row (w6.alloc o) (g + 1 + 1 + 1) 0 _ _ (d4a o) : _ = false)
  clear d3a d4a
  clear H_d1 H_d2 H_d3 H_d4 H_r1 H_r2 H_fa
  have H_d1 := Lib.hid d1; clear d1
  have H_d2 := Lib.hid d2; clear d2
  have H_d3 := Lib.hid d3; clear d3
  have H_d4 := Lib.hid d4; clear d4
  have H_r1 := Lib.hid r1; clear r1
  have H_r2 := Lib.hid r2; clear r2
  have H_fa := Lib.hid fa; clear fa
  have H_f6 := Lib.hid f6; clear f6
  go_wp2_with (fail)
  clear p0 p1 p2 p3 q0 q1 q2 q3
  generalize hw7 : w6.alloc _ = w7
  have f7 : Fresh w6 w7 := by rw [← hw7]; exact (Keep.refl _ _).alloc _
  have d3 := row_fresh H_d3.out f7
  have d4 := row_fresh H_d4.out f7
  have fa := fresh_trans H_fa.out f7
  have p3 := row_cell d4 0
  simp at p3
  clear H_d3 H_d4 H_fa
  have H_d3 := Lib.hid d3; clear d3
  have H_d4 := Lib.hid d4; clear d4
  have H_fa := Lib.hid fa; clear fa
  have H_f7 := Lib.hid f7; clear f7
  have H_hw7 := Lib.hid hw7; clear hw7
  refine leaves_cons (f := 54) (args := #[.pointer (some ⟨g + 1 + 1, 0, none⟩), .pointer (some ⟨g + 1 + 1 + 1, 0, none⟩)]) (by simp) (by simp [go_sem]) ?_
  refine (FixQuoBig1_idle _ _ _).mono ?_
  rintro e u' w'' ⟨rfl, rfl, rfl⟩
  refine ⟨.tuple #[.agg #[.bool false, .int .u64 0, .int .i64 0], .int .i64 1], results_cell_cell rfl _ _ (g + 1 + 1) 24 #[.bool false, .int .u64 0, .int .i64 0] (0, 0) _ (g + 1 + 1 + 1) _ rfl rfl ?_ Tryz.underlying24 rfl (by kernel_rfl) ?_, ?_⟩
  · rw [row_far (by omega)]; exact row3 H_d3.out
  · have hcell : ((((w7.setCell ⟨g + 1 + 1, 0, none⟩ (.bool false)).setCell ⟨g + 1 + 1, 1, none⟩ (.int .u64 0)).setCell ⟨g + 1 + 1, 2, none⟩ (.int .i64 0)).setCell ⟨g + 1 + 1 + 1, 0, none⟩ (.int .i64 1)).cell? ⟨g + 1 + 1 + 1, 0, none⟩ = some (.int .i64 1) :=
      cell?_setCell_eq rfl (by rw [far3 (by omega) p3]; rfl)
    simp [loadVar, go_sem, hcell]
  · exact ⟨rfl, (H_fa.out.set3 (by have := H_hg.out; omega)).setCell (fun h => by have := H_hg.out; change g + 1 + 1 + 1 < w.heap.size at h; omega) _⟩

set_option maxRecDepth 20000 in
set_option maxHeartbeats 4000000 in
theorem FixQuoBig_low (n1 n2 : Bool) (c1 s1 c2 s2 : Nat) (sc : Int) (hsc : sc < 0) (w : World) (hs1 : s1 ≤ 19) (hs2 : s2 ≤ 19) (hc1 : c1 ≤ 9999999999999999999) (hc2 : c2 ≤ 9999999999999999999)  :
    Calls Tryz.prog 23 #[fx n1 c1 s1, fx n2 c2 s2, .int .i64 sc] w (VRet w (.tuple #[.agg #[.bool false, .int .u64 0, .int .i64 0], .int .i64 3])) := by
  have hmf : ∀ (fn : Fn) (first cap : Array Value) (w : World), (Instr.makeFunc fn first cap).run Tryz.prog w = .ok (.func fn first cap) w := fun _ _ _ _ => rfl
  obtain ⟨m1, e1⟩ : ∃ n, n = (n1 && decide (0 < c1)) := ⟨_, rfl⟩
  obtain ⟨m2, e2⟩ : ∃ n, n = (n2 && decide (0 < c2)) := ⟨_, rfl⟩
  have t1 : decide (sc < 0) = true := by simp; omega
  have H_e1 := Lib.hid e1; clear e1
  have H_e2 := Lib.hid e2; clear e2
  go_enter_defers Tryz.func23, Tryz.ntmps23
  go_wp2_with (fail)
  obtain ⟨g, hg⟩ : ∃ g, g = w.heap.size := ⟨_, rfl⟩
  have bx := boxes4 w #[.bool n1, .int .u64 c1, .int .i64 s1] #[.bool n2, .int .u64 c2, .int .i64 s2] #[.bool false, .int .u64 0, .int .i64 0] #[.int .i64 0] 24 24 24 3 g hg
  have H_bx := Lib.hid bx; clear bx
  generalize hw1 : (((w.alloc _).alloc _).alloc _).alloc _ = w1
  rw [← hg]
  obtain ⟨d1, d2, d3, d4, fa⟩ := H_bx.out w1 hw1
  have H_d1 := Lib.hid d1; clear d1
  have H_d2 := Lib.hid d2; clear d2
  have H_d3 := Lib.hid d3; clear d3
  have H_d4 := Lib.hid d4; clear d4
  have H_fa := Lib.hid fa; clear fa
  have H_hw1 := Lib.hid hw1; clear hw1
  have H_hg := Lib.hid hg; clear hg
  refine (fixed_any n1 s1 c1 _ hs1 hc1).mono ?_
  rintro e w2 ⟨rfl, f2⟩
  rw [← H_e1.out]
  have d1 := row_fresh H_d1.out f2
  have d2 := row_fresh H_d2.out f2
  have d3 := row_fresh H_d3.out f2
  have d4 := row_fresh H_d4.out f2
  have fa := fresh_trans H_fa.out f2
  obtain ⟨h1, hh1⟩ : ∃ h, h = w2.heap.size := ⟨_, rfl⟩
  have ak0 := row_cell d2 0
  have ak1 := row_cell d2 1
  have ak2 := row_cell d2 2
  simp at ak0 ak1 ak2
  have a0 := fun o => cell_fresh ak0 ((Keep.refl (fun _ => False) w2).alloc o)
  have a1 := fun o => cell_fresh ak1 ((Keep.refl (fun _ => False) w2).alloc o)
  have a2 := fun o => cell_fresh ak2 ((Keep.refl (fun _ => False) w2).alloc o)
  clear ak0 ak1 ak2
  clear H_d1 H_d2 H_d3 H_d4 H_fa
  have H_d1 := Lib.hid d1; clear d1
  have H_d2 := Lib.hid d2; clear d2
  have H_d3 := Lib.hid d3; clear d3
  have H_d4 := Lib.hid d4; clear d4
  have H_fa := Lib.hid fa; clear fa
  have H_f2 := Lib.hid f2; clear f2
  have H_hh1 := Lib.hid hh1; clear hh1
  go_wp2_with (fail)
  generalize hw3 : w2.alloc _ = w3
  have f3 : Fresh w2 w3 := by rw [← hw3]; exact (Keep.refl _ _).alloc _
  have r1 : w3.heap[h1]? = some (.cells #[.bool m1, .int .i8 s1, .int .u64 c1] 60 (0, 0)) := by rw [← hw3, H_hh1.out]; exact heap_alloc_new w2 _
  rw [← H_hh1.out]
  have d1 := row_fresh H_d1.out f3
  have d2 := row_fresh H_d2.out f3
  have d3 := row_fresh H_d3.out f3
  have d4 := row_fresh H_d4.out f3
  have fa := fresh_trans H_fa.out f3
  clear a0 a1 a2
  clear H_d1 H_d2 H_d3 H_d4 H_fa
  have H_d1 := Lib.hid d1; clear d1
  have H_d2 := Lib.hid d2; clear d2
  have H_d3 := Lib.hid d3; clear d3
  have H_d4 := Lib.hid d4; clear d4
  have H_r1 := Lib.hid r1; clear r1
  have H_fa := Lib.hid fa; clear fa
  have H_f3 := Lib.hid f3; clear f3
  have H_hw3 := Lib.hid hw3; clear hw3
  refine (fixed_any n2 s2 c2 _ hs2 hc2).mono ?_
  rintro e w4 ⟨rfl, f4⟩
  rw [← H_e2.out]
  have d1 := row_fresh H_d1.out f4
  have d2 := row_fresh H_d2.out f4
  have d3 := row_fresh H_d3.out f4
  have d4 := row_fresh H_d4.out f4
  have r1 := row_fresh H_r1.out f4
  have fa := fresh_trans H_fa.out f4
  obtain ⟨h2, hh2⟩ : ∃ h, h = w4.heap.size := ⟨_, rfl⟩
  have d3a := fun o => row_fresh d3 ((Keep.refl (fun _ => False) w4).alloc o)
  have d4a := fun o => row_fresh d4 ((Keep.refl (fun _ => False) w4).alloc o)
  have p0 := fun o => row_cell (d3a o) 0
  have p1 := fun o => row_cell (d3a o) 1
  have p2 := fun o => row_cell (d3a o) 2
  have p3 := fun o => row_cell (d4a o) 0
  simp at p0 p1 p2 p3
  have q0 := fun o => (frozen_of_row (w4.alloc o) (g + 1 + 1) 0 _ _ (d3a o) : _ = false)
  have q1 := fun o => (frozen_of_row (w4.alloc o) (g + 1 + 1) 1 _ _ (d3a o) : _ = false)
  have q2 := fun o => (frozen_of_row (w4.alloc o) (g + 1 + 1) 2 _ _ (d3a o) : _ = false)
  have q3 := fun o => (frozen_of_row (w4.alloc o) (g + 1 + 1 + 1) 0 _ _ (d4a o) : _ = false)
  clear d3a d4a
  clear H_d1 H_d2 H_d3 H_d4 H_r1 H_fa
  have H_d1 := Lib.hid d1; clear d1
  have H_d2 := Lib.hid d2; clear d2
  have H_d3 := Lib.hid d3; clear d3
  have H_d4 := Lib.hid d4; clear d4
  have H_r1 := Lib.hid r1; clear r1
  have H_fa := Lib.hid fa; clear fa
  have H_f4 := Lib.hid f4; clear f4
  have H_hh2 := Lib.hid hh2; clear hh2
  go_wp2_with (fail)
  clear p0 p1 p2 p3 q0 q1 q2 q3
  generalize hw5 : w4.alloc _ = w5
  have f5 : Fresh w4 w5 := by rw [← hw5]; exact (Keep.refl _ _).alloc _
  have d3 := row_fresh H_d3.out f5
  have d4 := row_fresh H_d4.out f5
  have fa := fresh_trans H_fa.out f5
  have p3 := row_cell d4 0
  simp at p3
  clear H_d3 H_d4 H_fa
  have H_d3 := Lib.hid d3; clear d3
  have H_d4 := Lib.hid d4; clear d4
  have H_fa := Lib.hid fa; clear fa
  have H_f5 := Lib.hid f5; clear f5
  have H_hw5 := Lib.hid hw5; clear hw5
  refine leaves_cons (f := 54) (args := #[.pointer (some ⟨g + 1 + 1, 0, none⟩), .pointer (some ⟨g + 1 + 1 + 1, 0, none⟩)]) (by simp) (by simp [go_sem]) ?_
  refine (FixQuoBig1_idle _ _ _).mono ?_
  rintro e u' w'' ⟨rfl, rfl, rfl⟩
  refine ⟨.tuple #[.agg #[.bool false, .int .u64 0, .int .i64 0], .int .i64 3], results_cell_cell rfl _ _ (g + 1 + 1) 24 #[.bool false, .int .u64 0, .int .i64 0] (0, 0) _ (g + 1 + 1 + 1) _ rfl rfl ?_ Tryz.underlying24 rfl (by kernel_rfl) ?_, ?_⟩
  · rw [row_far (by omega)]; exact row3 H_d3.out
  · have hcell : ((((w5.setCell ⟨g + 1 + 1, 0, none⟩ (.bool false)).setCell ⟨g + 1 + 1, 1, none⟩ (.int .u64 0)).setCell ⟨g + 1 + 1, 2, none⟩ (.int .i64 0)).setCell ⟨g + 1 + 1 + 1, 0, none⟩ (.int .i64 3)).cell? ⟨g + 1 + 1 + 1, 0, none⟩ = some (.int .i64 3) :=
      cell?_setCell_eq rfl (by rw [far3 (by omega) p3]; rfl)
    simp [loadVar, go_sem, hcell]
  · exact ⟨rfl, (H_fa.out.set3 (by have := H_hg.out; omega)).setCell (fun h => by have := H_hg.out; change g + 1 + 1 + 1 < w.heap.size at h; omega) _⟩

set_option maxRecDepth 20000 in
set_option maxHeartbeats 4000000 in
theorem FixQuoBig_high (n1 n2 : Bool) (c1 s1 c2 s2 : Nat) (sc : Int) (hsc : 19 < sc) (w : World) (hs1 : s1 ≤ 19) (hs2 : s2 ≤ 19) (hc1 : c1 ≤ 9999999999999999999) (hc2 : c2 ≤ 9999999999999999999)  :
    Calls Tryz.prog 23 #[fx n1 c1 s1, fx n2 c2 s2, .int .i64 sc] w (VRet w (.tuple #[.agg #[.bool false, .int .u64 0, .int .i64 0], .int .i64 3])) := by
  have hmf : ∀ (fn : Fn) (first cap : Array Value) (w : World), (Instr.makeFunc fn first cap).run Tryz.prog w = .ok (.func fn first cap) w := fun _ _ _ _ => rfl
  obtain ⟨m1, e1⟩ : ∃ n, n = (n1 && decide (0 < c1)) := ⟨_, rfl⟩
  obtain ⟨m2, e2⟩ : ∃ n, n = (n2 && decide (0 < c2)) := ⟨_, rfl⟩
  have h1n : ¬ sc < 0 := by omega
  have t1 : decide (sc < 0) = false := by simp; omega
  have t2 : decide (19 < sc) = true := by simp; omega
  have H_e1 := Lib.hid e1; clear e1
  have H_e2 := Lib.hid e2; clear e2
  go_enter_defers Tryz.func23, Tryz.ntmps23
  go_wp2_with (fail)
  obtain ⟨g, hg⟩ : ∃ g, g = w.heap.size := ⟨_, rfl⟩
  have bx := boxes4 w #[.bool n1, .int .u64 c1, .int .i64 s1] #[.bool n2, .int .u64 c2, .int .i64 s2] #[.bool false, .int .u64 0, .int .i64 0] #[.int .i64 0] 24 24 24 3 g hg
  have H_bx := Lib.hid bx; clear bx
  generalize hw1 : (((w.alloc _).alloc _).alloc _).alloc _ = w1
  rw [← hg]
  obtain ⟨d1, d2, d3, d4, fa⟩ := H_bx.out w1 hw1
  have H_d1 := Lib.hid d1; clear d1
  have H_d2 := Lib.hid d2; clear d2
  have H_d3 := Lib.hid d3; clear d3
  have H_d4 := Lib.hid d4; clear d4
  have H_fa := Lib.hid fa; clear fa
  have H_hw1 := Lib.hid hw1; clear hw1
  have H_hg := Lib.hid hg; clear hg
  refine (fixed_any n1 s1 c1 _ hs1 hc1).mono ?_
  rintro e w2 ⟨rfl, f2⟩
  rw [← H_e1.out]
  have d1 := row_fresh H_d1.out f2
  have d2 := row_fresh H_d2.out f2
  have d3 := row_fresh H_d3.out f2
  have d4 := row_fresh H_d4.out f2
  have fa := fresh_trans H_fa.out f2
  obtain ⟨h1, hh1⟩ : ∃ h, h = w2.heap.size := ⟨_, rfl⟩
  have ak0 := row_cell d2 0
  have ak1 := row_cell d2 1
  have ak2 := row_cell d2 2
  simp at ak0 ak1 ak2
  have a0 := fun o => cell_fresh ak0 ((Keep.refl (fun _ => False) w2).alloc o)
  have a1 := fun o => cell_fresh ak1 ((Keep.refl (fun _ => False) w2).alloc o)
  have a2 := fun o => cell_fresh ak2 ((Keep.refl (fun _ => False) w2).alloc o)
  clear ak0 ak1 ak2
  clear H_d1 H_d2 H_d3 H_d4 H_fa
  have H_d1 := Lib.hid d1; clear d1
  have H_d2 := Lib.hid d2; clear d2
  have H_d3 := Lib.hid d3; clear d3
  have H_d4 := Lib.hid d4; clear d4
  have H_fa := Lib.hid fa; clear fa
  have H_f2 := Lib.hid f2; clear f2
  have H_hh1 := Lib.hid hh1; clear hh1
  go_wp2_with (fail)
  generalize hw3 : w2.alloc _ = w3
  have f3 : Fresh w2 w3 := by rw [← hw3]; exact (Keep.refl _ _).alloc _
  have r1 : w3.heap[h1]? = some (.cells #[.bool m1, .int .i8 s1, .int .u64 c1] 60 (0, 0)) := by rw [← hw3, H_hh1.out]; exact heap_alloc_new w2 _
  rw [← H_hh1.out]
  have d1 := row_fresh H_d1.out f3
  have d2 := row_fresh H_d2.out f3
  have d3 := row_fresh H_d3.out f3
  have d4 := row_fresh H_d4.out f3
  have fa := fresh_trans H_fa.out f3
  clear a0 a1 a2
  clear H_d1 H_d2 H_d3 H_d4 H_fa
  have H_d1 := Lib.hid d1; clear d1
  have H_d2 := Lib.hid d2; clear d2
  have H_d3 := Lib.hid d3; clear d3
  have H_d4 := Lib.hid d4; clear d4
  have H_r1 := Lib.hid r1; clear r1
  have H_fa := Lib.hid fa; clear fa
  have H_f3 := Lib.hid f3; clear f3
  have H_hw3 := Lib.hid hw3; clear hw3
  refine (fixed_any n2 s2 c2 _ hs2 hc2).mono ?_
  rintro e w4 ⟨rfl, f4⟩
  rw [← H_e2.out]
  have d1 := row_fresh H_d1.out f4
  have d2 := row_fresh H_d2.out f4
  have d3 := row_fresh H_d3.out f4
  have d4 := row_fresh H_d4.out f4
  have r1 := row_fresh H_r1.out f4
  have fa := fresh_trans H_fa.out f4
  obtain ⟨h2, hh2⟩ : ∃ h, h = w4.heap.size := ⟨_, rfl⟩
  have d3a := fun o => row_fresh d3 ((Keep.refl (fun _ => False) w4).alloc o)
  have d4a := fun o => row_fresh d4 ((Keep.refl (fun _ => False) w4).alloc o)
  have p0 := fun o => row_cell (d3a o) 0
  have p1 := fun o => row_cell (d3a o) 1
  have p2 := fun o => row_cell (d3a o) 2
  have p3 := fun o => row_cell (d4a o) 0
  simp at p0 p1 p2 p3
  have q0 := fun o => (frozen_of_row (w4.alloc o) (g + 1 + 1) 0 _ _ (d3a o) : _ = false)
  have q1 := fun o => (frozen_of_row (w4.alloc o) (g + 1 + 1) 1 _ _ (d3a o) : _ = false)
  have q2 := fun o => (frozen_of_row (w4.alloc o) (g + 1 + 1) 2 _ _ (d3a o) : _ = false)
  have q3 := fun o => (frozen_of_row (w4.alloc o) (g + 1 + 1 + 1) 0 _ _ (d4a o) : _ = false)
  clear d3a d4a
  clear H_d1 H_d2 H_d3 H_d4 H_r1 H_fa
  have H_d1 := Lib.hid d1; clear d1
  have H_d2 := Lib.hid d2; clear d2
  have H_d3 := Lib.hid d3; clear d3
  have H_d4 := Lib.hid d4; clear d4
  have H_r1 := Lib.hid r1; clear r1
  have H_fa := Lib.hid fa; clear fa
  have H_f4 := Lib.hid f4; clear f4
  have H_hh2 := Lib.hid hh2; clear hh2
  go_wp2_with (fail)
  clear p0 p1 p2 p3 q0 q1 q2 q3
  generalize hw5 : w4.alloc _ = w5
  have f5 : Fresh w4 w5 := by rw [← hw5]; exact (Keep.refl _ _).alloc _
  have d3 := row_fresh H_d3.out f5
  have d4 := row_fresh H_d4.out f5
  have fa := fresh_trans H_fa.out f5
  have p3 := row_cell d4 0
  simp at p3
  clear H_d3 H_d4 H_fa
  have H_d3 := Lib.hid d3; clear d3
  have H_d4 := Lib.hid d4; clear d4
  have H_fa := Lib.hid fa; clear fa
  have H_f5 := Lib.hid f5; clear f5
  have H_hw5 := Lib.hid hw5; clear hw5
  refine leaves_cons (f := 54) (args := #[.pointer (some ⟨g + 1 + 1, 0, none⟩), .pointer (some ⟨g + 1 + 1 + 1, 0, none⟩)]) (by simp) (by simp [go_sem]) ?_
  refine (FixQuoBig1_idle _ _ _).mono ?_
  rintro e u' w'' ⟨rfl, rfl, rfl⟩
  refine ⟨.tuple #[.agg #[.bool false, .int .u64 0, .int .i64 0], .int .i64 3], results_cell_cell rfl _ _ (g + 1 + 1) 24 #[.bool false, .int .u64 0, .int .i64 0] (0, 0) _ (g + 1 + 1 + 1) _ rfl rfl ?_ Tryz.underlying24 rfl (by kernel_rfl) ?_, ?_⟩
  · rw [row_far (by omega)]; exact row3 H_d3.out
  · have hcell : ((((w5.setCell ⟨g + 1 + 1, 0, none⟩ (.bool false)).setCell ⟨g + 1 + 1, 1, none⟩ (.int .u64 0)).setCell ⟨g + 1 + 1, 2, none⟩ (.int .i64 0)).setCell ⟨g + 1 + 1 + 1, 0, none⟩ (.int .i64 3)).cell? ⟨g + 1 + 1 + 1, 0, none⟩ = some (.int .i64 3) :=
      cell?_setCell_eq rfl (by rw [far3 (by omega) p3]; rfl)
    simp [loadVar, go_sem, hcell]
  · exact ⟨rfl, (H_fa.out.set3 (by have := H_hg.out; omega)).setCell (fun h => by have := H_hg.out; change g + 1 + 1 + 1 < w.heap.size at h; omega) _⟩

end Go.Proofs.YtmgidnjpkbgmgabGreatDoor

/- The walk of FnFixQuoBig, and the law. -/
namespace Go.Proofs.YtmgidnjpkbgmgabGreatDoor
open Go.RowKit

set_option maxRecDepth 20000 in
set_option maxHeartbeats 2000000 in
theorem FnFixQuoBig_out (n1 n2 : Bool) (c1 c2 : Nat) (s1 s2 : Int) (sc : Int) (w : World) (h : (fixIs c1 s1 && fixIs c2 s2) = false) :
    Calls Tryz.prog 7 #[.agg #[.bool n1, .int .u64 c1, .int .i64 s1], .agg #[.bool n2, .int .u64 c2, .int .i64 s2], .int .i64 sc] w (VRet w (.bool true)) := by
  obtain ⟨g, hg⟩ : ∃ g, g = w.heap.size := ⟨_, rfl⟩
  have bx := boxes3 w #[.bool n1, .int .u64 c1, .int .i64 s1] #[.bool n2, .int .u64 c2, .int .i64 s2] #[.bool n1, .int .u64 c1, .int .i64 s1, .bool n2, .int .u64 c2, .int .i64 s2] 24 24 24 g hg
  have H_bx := Lib.hid bx; clear bx
  have H_h := Lib.hid h; clear h
  go_enter Tryz.func7, Tryz.ntmps7
  go_wp2_with (fail)
  generalize hw1 : ((w.alloc _).alloc _).alloc _ = w1
  rw [← hg]
  obtain ⟨d1, d2, d3, fa, _⟩ := H_bx.out w1 hw1
  refine (FixAll_two n1 n2 c1 c2 s1 s2 _ _ d3).mono ?_
  rintro e w2 ⟨rfl, f2⟩
  rw [H_h.out]
  have H_d1 := Lib.hid d1; clear d1
  have H_d2 := Lib.hid d2; clear d2
  have H_d3 := Lib.hid d3; clear d3
  have H_fa := Lib.hid fa; clear fa
  have H_hw1 := Lib.hid hw1; clear hw1
  have H_hg := Lib.hid hg; clear hg
  have H_f2 := Lib.hid f2; clear f2
  go_wp2_with (fail)
  go_ret
  exact ⟨rfl, fresh_trans H_fa.out H_f2.out⟩

set_option maxRecDepth 100000 in
set_option maxHeartbeats 8000000 in
theorem FnFixQuoBig_walk (n1 n2 nr : Bool) (c1 s1 c2 s2 cr : Nat) (sr fl : Int) (sc : Int) (w : World) (hs1 : s1 ≤ 19) (hs2 : s2 ≤ 19) (hc1 : c1 ≤ 9999999999999999999) (hc2 : c2 ≤ 9999999999999999999) (hc20 : 0 < c2)
    (hcl : ∀ W, Fresh w W → Calls Tryz.prog 23 #[fx n1 c1 s1, fx n2 c2 s2, .int .i64 sc] W (VRet W (.tuple #[.agg #[.bool nr, .int .u64 cr, .int .i64 sr], .int .i64 fl])))
    (hgv : ∀ W x, Fresh w W → SFr W x (zfix n1 c1 * zfix n2 (10 ^ s2)) (10 ^ s1 * c2) → Calls Tryz.prog 24 #[.agg #[.bool nr, .int .u64 cr, .int .i64 sr], .int .i64 fl, x, .int .i64 sc] W (VRet W (.bool true))) :
    Calls Tryz.prog 7 #[fx n1 c1 s1, fx n2 c2 s2, .int .i64 sc] w (VRet w (.bool true)) := by
  have h : (fixIs c1 s1 && fixIs c2 s2) = true := by unfold fixIs; simp; omega
  have hn1 := fun W => FixNum_any n1 c1 s1 W hs1 hc1
  have hn2 := fun W => FixNum_any n2 c2 s2 W hs2 hc2
  have hinv := fun W x (hx : SFr W x (zfix n2 c2) (10 ^ s2)) => inv_quo hc20 x W hx
  have hop := fun W x y (hx : SFr W x (zfix n1 c1) (10 ^ s1)) (hy : SFr W y (zfix n2 (10 ^ s2)) c2) => FracMul_any x y _ _ _ _ W hx hy (zfix_spow hc1) (zten_spow hs2) (ten_spow hs1) (c_spow hc2)
  have hz2 : ((c2 : Int) == 0) = false := by rw [beq_eq_false_iff_ne]; omega
  obtain ⟨g, hg⟩ : ∃ g, g = w.heap.size := ⟨_, rfl⟩
  have bx := boxes3 w #[.bool n1, .int .u64 c1, .int .i64 s1] #[.bool n2, .int .u64 c2, .int .i64 s2] #[.bool n1, .int .u64 c1, .int .i64 s1, .bool n2, .int .u64 c2, .int .i64 s2] 24 24 24 g hg
  have H_bx := Lib.hid bx; clear bx
  have H_h := Lib.hid h; clear h
  have H_hcl := Lib.hid hcl; clear hcl
  have H_hn1 := Lib.hid hn1; clear hn1
  have H_hn2 := Lib.hid hn2; clear hn2
  have H_hop := Lib.hid hop; clear hop
  have H_hinv := Lib.hid hinv; clear hinv
  have H_hgv := Lib.hid hgv; clear hgv
  go_enter Tryz.func7, Tryz.ntmps7
  go_wp2_with (fail)
  generalize hw1 : ((w.alloc _).alloc _).alloc _ = w1
  rw [← hg]
  obtain ⟨d1, d2, d3, fa, _⟩ := H_bx.out w1 hw1
  refine (FixAll_two n1 n2 c1 c2 s1 s2 _ _ d3).mono ?_
  rintro e w2 ⟨rfl, f2⟩
  rw [H_h.out]
  clear d3
  have H_d1 := Lib.hid d1; clear d1
  have H_d2 := Lib.hid d2; clear d2
  have H_fa := Lib.hid fa; clear fa
  have H_hw1 := Lib.hid hw1; clear hw1
  have H_hg := Lib.hid hg; clear hg
  have d1 := row_fresh H_d1.out f2
  have d2 := row_fresh H_d2.out f2
  have fa := fresh_trans H_fa.out f2
  have m0 := row_cell d1 0
  have m1 := row_cell d1 1
  have m2 := row_cell d1 2
  have m3 := row_cell d2 0
  have m4 := row_cell d2 1
  have m5 := row_cell d2 2
  simp at m0 m1 m2 m3 m4 m5
  have H_f2 := Lib.hid f2; clear f2
  clear H_d1 H_d2 H_fa
  have H_d1 := Lib.hid d1; clear d1
  have H_d2 := Lib.hid d2; clear d2
  have H_fa := Lib.hid fa; clear fa
  go_wp2_with (fail)
  refine (H_hcl.out _ H_fa.out).mono ?_
  rintro e w3 ⟨rfl, f3⟩
  have d1 := row_fresh H_d1.out f3
  have d2 := row_fresh H_d2.out f3
  have fa := fresh_trans H_fa.out f3
  clear m0 m1 m2 m3 m4 m5
  obtain ⟨h7, hh7⟩ : ∃ h, h = w3.heap.size := ⟨_, rfl⟩
  have H_f3 := Lib.hid f3; clear f3
  have H_hh7 := Lib.hid hh7; clear hh7
  clear H_d1 H_d2 H_fa
  have H_d1 := Lib.hid d1; clear d1
  have H_d2 := Lib.hid d2; clear d2
  have H_fa := Lib.hid fa; clear fa
  go_wp2_with (fail)
  generalize hw4 : w3.alloc _ = w4
  have f4 : Fresh w3 w4 := by rw [← hw4]; exact (Keep.refl _ _).alloc _
  have r7 : w4.heap[h7]? = some (.cells #[.bool nr, .int .u64 cr, .int .i64 sr] 24 (0, 0)) := by rw [← hw4, H_hh7.out]; exact heap_alloc_new w3 _
  rw [← H_hh7.out]
  have d1 := row_fresh H_d1.out f4
  have d2 := row_fresh H_d2.out f4
  have fa := fresh_trans H_fa.out f4
  have m0 := row_cell r7 0
  have m1 := row_cell r7 1
  have m2 := row_cell r7 2
  have m3 := row_cell d1 0
  have m4 := row_cell d1 1
  have m5 := row_cell d1 2
  have m6 := row_cell d2 0
  have m7 := row_cell d2 1
  have m8 := row_cell d2 2
  simp at m0 m1 m2 m3 m4 m5 m6 m7 m8
  have H_f4 := Lib.hid f4; clear f4
  have H_hw4 := Lib.hid hw4; clear hw4
  clear H_d1 H_d2 H_fa
  have H_d1 := Lib.hid d1; clear d1
  have H_d2 := Lib.hid d2; clear d2
  have H_r7 := Lib.hid r7; clear r7
  have H_fa := Lib.hid fa; clear fa
  go_region_held3 (fun (w' : World) => w'.cell? ⟨h7, 0, none⟩ = some (.bool nr) ∧ w'.cell? ⟨h7, 1, none⟩ = some (.int .u64 cr) ∧ w'.cell? ⟨h7, 2, none⟩ = some (.int .i64 sr) ∧ w'.cell? ⟨g, 0, none⟩ = some (.bool n1) ∧ w'.cell? ⟨g, 1, none⟩ = some (.int .u64 c1) ∧ w'.cell? ⟨g, 2, none⟩ = some (.int .i64 s1) ∧ w'.cell? ⟨g + 1, 0, none⟩ = some (.bool n2) ∧ w'.cell? ⟨g + 1, 1, none⟩ = some (.int .u64 c2) ∧ w'.cell? ⟨g + 1, 2, none⟩ = some (.int .i64 s2)) (first | exact ⟨m0, m1, m2, m3, m4, m5, m6, m7, m8⟩ | exact ⟨z2_0, z2_1, z2_2, z2_3, z2_4, z2_5, z2_6, z2_7, z2_8⟩ | exact ⟨z4_0, z4_1, z4_2, z4_3, z4_4, z4_5, z4_6, z4_7, z4_8⟩ | exact ⟨z6_0, z6_1, z6_2, z6_3, z6_4, z6_5, z6_6, z6_7, z6_8⟩ | exact ⟨z8_0, z8_1, z8_2, z8_3, z8_4, z8_5, z8_6, z8_7, z8_8⟩ | exact ⟨z10_0, z10_1, z10_2, z10_3, z10_4, z10_5, z10_6, z10_7, z10_8⟩ | exact ⟨z12_0, z12_1, z12_2, z12_3, z12_4, z12_5, z12_6, z12_7, z12_8⟩) (first
    | (go_at_call 19; (with_reducible refine (H_hn1.out _).mono ?_); rintro e y1_ ⟨xa, rfl, hsxa, r⟩; have hy : Fresh w4 y1_ := (by first | exact r | exact r.of_drew | exact r.of_drewN); have z2_0 := cell_fresh m0 hy; have z2_1 := cell_fresh m1 hy; have z2_2 := cell_fresh m2 hy; have z2_3 := cell_fresh m3 hy; have z2_4 := cell_fresh m4 hy; have z2_5 := cell_fresh m5 hy; have z2_6 := cell_fresh m6 hy; have z2_7 := cell_fresh m7 hy; have z2_8 := cell_fresh m8 hy; have fy1_ := hy; have H_fy1_ := Lib.hid fy1_; have H_hyxa := Lib.hid hy; have H_hsxa := Lib.hid hsxa; clear r hy hsxa fy1_)
    | (go_at_call 19; (with_reducible refine (H_hn2.out _).mono ?_); rintro e y3_ ⟨xb, rfl, hsxb, r⟩; have hy : Fresh y1_ y3_ := r; have z4_0 := cell_fresh z2_0 hy; have z4_1 := cell_fresh z2_1 hy; have z4_2 := cell_fresh z2_2 hy; have z4_3 := cell_fresh z2_3 hy; have z4_4 := cell_fresh z2_4 hy; have z4_5 := cell_fresh z2_5 hy; have z4_6 := cell_fresh z2_6 hy; have z4_7 := cell_fresh z2_7 hy; have z4_8 := cell_fresh z2_8 hy; have fy3_ := fresh_trans H_fy1_.out hy; have H_fy3_ := Lib.hid fy3_; have H_hyxb := Lib.hid hy; have H_hsxb := Lib.hid hsxb; clear r hy hsxb fy3_)
    | (go_at_call 26; (with_reducible refine (H_hinv.out _ _ H_hsxb.out).mono ?_); rintro e y5_ ⟨xe, rfl, hsxe, r⟩; have hy : Fresh y3_ y5_ := r; have z6_0 := cell_fresh z4_0 hy; have z6_1 := cell_fresh z4_1 hy; have z6_2 := cell_fresh z4_2 hy; have z6_3 := cell_fresh z4_3 hy; have z6_4 := cell_fresh z4_4 hy; have z6_5 := cell_fresh z4_5 hy; have z6_6 := cell_fresh z4_6 hy; have z6_7 := cell_fresh z4_7 hy; have z6_8 := cell_fresh z4_8 hy; have fy5_ := fresh_trans H_fy3_.out hy; have H_fy5_ := Lib.hid fy5_; have H_hyxe := Lib.hid hy; have H_hsxe := Lib.hid hsxe; clear r hy hsxe fy5_)
    | (go_at_call 25; (with_reducible refine (H_hop.out _ _ _ (H_hsxa.out.fresh (fresh_trans H_hyxb.out H_hyxe.out)) H_hsxe.out).mono ?_); rintro e y7_ ⟨xc, rfl, hsxc, r⟩; have hy : Fresh y5_ y7_ := r; have z8_0 := cell_fresh z6_0 hy; have z8_1 := cell_fresh z6_1 hy; have z8_2 := cell_fresh z6_2 hy; have z8_3 := cell_fresh z6_3 hy; have z8_4 := cell_fresh z6_4 hy; have z8_5 := cell_fresh z6_5 hy; have z8_6 := cell_fresh z6_6 hy; have z8_7 := cell_fresh z6_7 hy; have z8_8 := cell_fresh z6_8 hy; have fy7_ := fresh_trans H_fy5_.out hy; have H_fy7_ := Lib.hid fy7_; have H_hyxc := Lib.hid hy; have H_hsxc := Lib.hid hsxc; clear r hy hsxc fy7_)
    | (go_at_call 24; (with_reducible refine (H_hgv.out _ _ (fresh_trans H_fa.out H_fy7_.out) H_hsxc.out).mono ?_); rintro e y9_ ⟨rfl, r⟩; have hy : Fresh y7_ y9_ := r; have z10_0 := cell_fresh z8_0 hy; have z10_1 := cell_fresh z8_1 hy; have z10_2 := cell_fresh z8_2 hy; have z10_3 := cell_fresh z8_3 hy; have z10_4 := cell_fresh z8_4 hy; have z10_5 := cell_fresh z8_5 hy; have z10_6 := cell_fresh z8_6 hy; have z10_7 := cell_fresh z8_7 hy; have z10_8 := cell_fresh z8_8 hy; have fy9_ := fresh_trans H_fy7_.out hy; have H_fy9_ := Lib.hid fy9_; clear r hy fy9_)
    | (go_at_call 27; (with_reducible refine (gvLives_any _).mono ?_); rintro e y11_ ⟨rfl, r⟩; have hy : Fresh y9_ y11_ := r; have z12_0 := cell_fresh z10_0 hy; have z12_1 := cell_fresh z10_1 hy; have z12_2 := cell_fresh z10_2 hy; have z12_3 := cell_fresh z10_3 hy; have z12_4 := cell_fresh z10_4 hy; have z12_5 := cell_fresh z10_5 hy; have z12_6 := cell_fresh z10_6 hy; have z12_7 := cell_fresh z10_7 hy; have z12_8 := cell_fresh z10_8 hy; have fy11_ := fresh_trans H_fy9_.out hy; have H_fy11_ := Lib.hid fy11_; clear r hy fy11_))
  go_wp2
  go_ret
  exact ⟨by rfl, fresh_trans H_fa.out H_fy11_.out⟩

set_option maxRecDepth 20000 in
set_option maxHeartbeats 2000000 in
theorem FnFixQuoBig_zero (n1 n2 : Bool) (c1 c2 : Nat) (s1 s2 : Nat) (sc : Int) (w : World) (hs1 : s1 ≤ 19) (hs2 : s2 ≤ 19) (hc1 : c1 ≤ 9999999999999999999) (hc20 : c2 = 0) :
    Calls Tryz.prog 7 #[fx n1 c1 s1, fx n2 c2 s2, .int .i64 sc] w (VRet w (.bool true)) := by
  have h : (fixIs c1 s1 && fixIs c2 s2) = true := by unfold fixIs; simp; omega
  have hz2 : ((c2 : Int) == 0) = true := by rw [hc20]; rfl
  clear hc20
  obtain ⟨g, hg⟩ : ∃ g, g = w.heap.size := ⟨_, rfl⟩
  have bx := boxes3 w #[.bool n1, .int .u64 c1, .int .i64 s1] #[.bool n2, .int .u64 c2, .int .i64 s2] #[.bool n1, .int .u64 c1, .int .i64 s1, .bool n2, .int .u64 c2, .int .i64 s2] 24 24 24 g hg
  have H_bx := Lib.hid bx; clear bx
  have H_h := Lib.hid h; clear h
  go_enter Tryz.func7, Tryz.ntmps7
  go_wp2_with (fail)
  generalize hw1 : ((w.alloc _).alloc _).alloc _ = w1
  rw [← hg]
  obtain ⟨d1, d2, d3, fa, _⟩ := H_bx.out w1 hw1
  refine (FixAll_two n1 n2 c1 c2 s1 s2 _ _ d3).mono ?_
  rintro e w2 ⟨rfl, f2⟩
  rw [H_h.out]
  have m := row_cell (row_fresh d2 f2) 1
  simp at m
  have H_d1 := Lib.hid d1; clear d1
  have H_d2 := Lib.hid d2; clear d2
  have H_d3 := Lib.hid d3; clear d3
  have H_fa := Lib.hid fa; clear fa
  have H_hw1 := Lib.hid hw1; clear hw1
  have H_hg := Lib.hid hg; clear hg
  have H_f2 := Lib.hid f2; clear f2
  go_wp2_with (fail)
  go_ret
  exact ⟨rfl, fresh_trans H_fa.out H_f2.out⟩

theorem FnFixQuoBig_main (n1 n2 : Bool) (c1 s1 c2 s2 : Nat) (sc : Int) (w : World) (hG : Glob w) (hP : Pow10s w) (hs1 : s1 ≤ 19) (hs2 : s2 ≤ 19) (hc1 : c1 ≤ 9999999999999999999) (hc2 : c2 ≤ 9999999999999999999) :
    Calls Tryz.prog 7 #[fx n1 c1 s1, fx n2 c2 s2, .int .i64 sc] w (VRet w (.bool true)) := by
  rcases Nat.eq_zero_or_pos c2 with h2 | h2
  · exact FnFixQuoBig_zero n1 n2 c1 c2 s1 s2 sc w hs1 hs2 hc1 h2
  obtain ⟨hd, hdd, hb⟩ := quo_bounds (n1 := n1) (n2 := n2) hs1 hs2 hc1 hc2 h2
  by_cases hsc : 0 ≤ sc ∧ sc ≤ 19
  · obtain ⟨ms, rfl⟩ := Int.eq_ofNat_of_zero_le hsc.1
    have hms : ms ≤ 19 := by omega
    have hcn : (n2 && decide (0 < c2)) = n2 := by simp [h2]
    have hlaw := quoBint_law (n1 && decide (0 < c1)) (n2 && decide (0 < c2)) c1 s1 c2 s2 ms hms hs1 hs2 hc1 hc2 h2
    rw [zfix_canon] at hlaw
    rw [show zfix (n2 && decide (0 < c2)) (10 ^ s2) = zfix n2 (10 ^ s2) by rw [hcn]] at hlaw
    rcases hlaw with ⟨hno, herr⟩ | ⟨nz, sz, cz, hok, hg1, hg2, hg3, hg4⟩
    · exact FnFixQuoBig_walk n1 n2 false c1 s1 c2 s2 0 0 1 ms w hs1 hs2 hc1 hc2 h2
        (fun W hW => FixQuoBig_err n1 n2 c1 s1 c2 s2 ms hms W hs1 hs2 hc1 hc2 h2 (fun V hV => (ZzQuoBig_go _ _ false c1 s1 c2 s2 ms V 0 0 AnErr (fun U hU => (herr U (((hG.fresh hW).fresh hV).fresh hU) (((hP.fresh hW).fresh hV).fresh hU)).mono (fun _ _ h => DOut.of_err h))).mono (fun _ _ h => h.err)))
        (fun W x _ hx => gvBig_err false 0 ms 0 x _ _ W hx hd hb hdd hms hno)
    · exact FnFixQuoBig_walk n1 n2 nz c1 s1 c2 s2 cz sz 0 ms w hs1 hs2 hc1 hc2 h2
        (fun W hW => FixQuoBig_ok n1 n2 nz c1 s1 c2 s2 cz sz ms hms W hs1 hs2 hc1 hc2 h2 hg1.1 (fun V hV => (ZzQuoBig_go _ _ nz c1 s1 c2 s2 ms V sz cz NoErr (fun U hU => (hok U (((hG.fresh hW).fresh hV).fresh hU) (((hP.fresh hW).fresh hV).fresh hU)).mono (fun _ _ h => DOut.of_ok h))).mono (fun _ _ h => h.ok)))
        (fun W x _ hx => gvBig_ok nz cz sz ms x _ _ W hx hd hb hdd hg1 hg2 hg3 hg4)
  · rcases Int.lt_or_le sc 0 with hlo | hlo
    · exact FnFixQuoBig_walk n1 n2 false c1 s1 c2 s2 0 0 3 sc w hs1 hs2 hc1 hc2 h2 (fun W _ => FixQuoBig_low n1 n2 c1 s1 c2 s2 sc hlo W hs1 hs2 hc1 hc2) (fun W x _ hx => gvBig_out false 0 0 3 sc x _ _ W hx (.inl hlo))
    · exact FnFixQuoBig_walk n1 n2 false c1 s1 c2 s2 0 0 3 sc w hs1 hs2 hc1 hc2 h2 (fun W _ => FixQuoBig_high n1 n2 c1 s1 c2 s2 sc (by omega) W hs1 hs2 hc1 hc2) (fun W x _ hx => gvBig_out false 0 0 3 sc x _ _ W hx (.inr (by omega)))

end Go.Proofs.YtmgidnjpkbgmgabGreatDoor
