/- Products by whole numbers of 64 bits: mulFint. -/
import Derived.Test.YtjdfapoomjeabaaGreatDoorK17
import Derived.Test.YtjdfapoomjeabaaGreatDoorK44
namespace Go.Proofs.YtjdfapoomjeabaaGreatDoor
open Go.RowKit

theorem fmul_zero (x : Nat) (w : World) : Calls Tryz.prog 116 #[.int .u64 x, .int .u64 (0 : Nat)] w (fun e w' => e = .returned (mulTo (x * 0)) ∧ w' = w) := by
  have hr : mulTo (x * 0) = .tuple #[.int .u64 0, .bool true] := rfl
  rw [hr]
  clear hr
  go_enter Tryz.func116, Tryz.ntmps116
  go_wp2
  go_ret2
  exact ⟨rfl, rfl⟩

set_option maxRecDepth 20000 in
set_option maxHeartbeats 4000000 in
theorem mulFint_no (m1 m2 : Bool) (c1 s1 c2 s2 : Nat) (w : World) (hE : ErrIs w) (ms : Nat) (hs1 : s1 ≤ 19) (hs2 : s2 ≤ 19) (hc1 : c1 ≤ 9999999999999999999) (hc2 : c2 ≤ 9999999999999999999) (hfit : ¬ c1 * c2 ≤ 9999999999999999999) :
    Calls Tryz.prog 90 #[gd m1 s1 c1, gd m2 s2 c2, .int .i64 ms] w (ClampErr w) := by
  have hmul : ∀ W, Calls Tryz.prog 116 #[.int .u64 c1, .int .u64 c2] W (fun e w' => e = .returned (mulTo (c1 * c2)) ∧ w' = W) := fun W => by
    rcases Nat.eq_zero_or_pos c2 with h | h
    · subst h; exact fmul_zero c1 W
    · exact fmul_any c1 c2 W hc1 h (by omega)
  have hsI : (s1 : Int) + (s2 : Int) = ((s1 + s2 : Nat) : Int) := by omega
  obtain ⟨S, hS⟩ : ∃ S, S = s1 + s2 := ⟨_, rfl⟩
  obtain ⟨q, hq⟩ : ∃ q, q = c1 * c2 := ⟨_, rfl⟩
  rw [← hq] at hmul hfit
  rw [← hS] at hsI
  have hSw : IntKind.i64.wrap (S : Int) = (S : Int) := wrap_nat S (by omega)
  have hm : mulTo q = .tuple #[.int .u64 0, .bool false] := by unfold mulTo; rw [if_neg hfit]
  rw [hm] at hmul
  clear hm hq hS
  clear hfit
  obtain ⟨g, hg⟩ : ∃ g, g = w.heap.size := ⟨_, rfl⟩
  have bx := boxes3 w #[.bool m1, .int .i8 s1, .int .u64 c1] #[.bool m2, .int .i8 s2, .int .u64 c2] #[.bool false, .int .i8 0, .int .u64 0] 50 50 50 g hg
  have H_bx := Lib.hid bx; clear bx
  have H_hmul := Lib.hid hmul; clear hmul
  have H_hE := Lib.hid hE; clear hE
  go_enter Tryz.func90, Tryz.ntmps90
  go_wp2_with (fail)
  generalize hw1 : ((w.alloc _).alloc _).alloc _ = w1
  rw [← hg]
  obtain ⟨r1, r2, r3, fa, _⟩ := H_bx.out w1 hw1
  have k0 := row_cell r1 0
  have k1 := row_cell r1 1
  have k2 := row_cell r1 2
  have k3 := row_cell r2 0
  have k4 := row_cell r2 1
  have k5 := row_cell r2 2
  simp at k0 k1 k2 k3 k4 k5
  have H_r1 := Lib.hid r1; clear r1
  have H_r2 := Lib.hid r2; clear r2
  have H_r3 := Lib.hid r3; clear r3
  have H_fa := Lib.hid fa; clear fa
  have H_hw1 := Lib.hid hw1; clear hw1
  have H_hg := Lib.hid hg; clear hg
  go_wp2_with (fail)
  refine (Scale_any m1 s1 c1 _ hs1).mono ?_
  rintro e w2 ⟨rfl, f2⟩
  have r1 := row_fresh H_r1.out f2
  have r2 := row_fresh H_r2.out f2
  have r3 := row_fresh H_r3.out f2
  have fa := fresh_trans H_fa.out f2
  clear H_r1 H_r2 H_r3 H_fa f2
  clear k0 k1 k2 k3 k4 k5
  have k0 := row_cell r1 0
  have k1 := row_cell r1 1
  have k2 := row_cell r1 2
  have k3 := row_cell r2 0
  have k4 := row_cell r2 1
  have k5 := row_cell r2 2
  simp at k0 k1 k2 k3 k4 k5
  have H_r1 := Lib.hid r1; clear r1
  have H_r2 := Lib.hid r2; clear r2
  have H_r3 := Lib.hid r3; clear r3
  have H_fa := Lib.hid fa; clear fa
  go_wp2_with (fail)
  refine (IsNeg_any m1 s1 c1 _).mono ?_
  rintro e w3 ⟨rfl, f3⟩
  have r1 := row_fresh H_r1.out f3
  have r2 := row_fresh H_r2.out f3
  have r3 := row_fresh H_r3.out f3
  have fa := fresh_trans H_fa.out f3
  clear H_r1 H_r2 H_r3 H_fa f3
  clear k0 k1 k2 k3 k4 k5
  have k0 := row_cell r1 0
  have k1 := row_cell r1 1
  have k2 := row_cell r1 2
  have k3 := row_cell r2 0
  have k4 := row_cell r2 1
  have k5 := row_cell r2 2
  simp at k0 k1 k2 k3 k4 k5
  have H_r1 := Lib.hid r1; clear r1
  have H_r2 := Lib.hid r2; clear r2
  have H_r3 := Lib.hid r3; clear r3
  have H_fa := Lib.hid fa; clear fa
  go_wp2_with (fail)
  refine (H_hmul.out _).mono ?_
  rintro e w4 ⟨rfl, hs⟩
  subst hs
  go_wp2_with (fail)
  obtain ⟨ae, hae⟩ := H_hE.out.fresh H_fa.out
  have hne : 0 ≠ g + 1 + 1 := by
    obtain ⟨_, h0⟩ := H_hE.out
    have := ErrIs.lt h0
    have := H_hg.out
    omega
  have p0 := row_cell H_r3.out 0
  have p1 := row_cell H_r3.out 1
  have p2 := row_cell H_r3.out 2
  simp at p0 p1 p2
  have z0 : w4.frozen? ⟨g + 1 + 1, 0, none⟩ = false := frozen_of_row _ _ _ _ _ H_r3.out
  have z1 : w4.frozen? ⟨g + 1 + 1, 1, none⟩ = false := frozen_of_row _ _ _ _ _ H_r3.out
  have z2 : w4.frozen? ⟨g + 1 + 1, 2, none⟩ = false := frozen_of_row _ _ _ _ _ H_r3.out
  go_wp2_with (fail)
  go_region_held3 (fun (w' : World) => w'.cell? ⟨0, 0, none⟩ = some (.iface 91 (.pointer (some ae)))) (first | exact hae | exact far3 hne hae) (fail)
  go_wp2
  refine bodyPost_ret (results_cell_tmp_row rfl _ _ (g + 1 + 1) 50 #[.bool false, .int .i8 0, .int .u64 0] (0, 0) _ rfl (row_set (row_set (row_set H_r3.out))) Tryz.underlying50 rfl (by kernel_rfl)) rfl ?_
  exact ⟨ae, rfl, Fresh.set3 (H_fa.out.drewN 1) (by have := H_hg.out; omega)⟩

set_option maxRecDepth 20000 in
set_option maxHeartbeats 4000000 in
theorem mulFint_go (m1 m2 nz : Bool) (c1 s1 c2 s2 : Nat) (w : World) (ms : Nat) (hs1 : s1 ≤ 19) (hs2 : s2 ≤ 19) (hc1 : c1 ≤ 9999999999999999999) (hc2 : c2 ≤ 9999999999999999999) (hfit : c1 * c2 ≤ 9999999999999999999)
    (sz cz : Nat) (Pv : Value → Prop) (hnf : ∀ W, Fresh w W → Calls Tryz.prog 100 #[.bool (m1 != m2), .int .u64 (c1 * c2 : Nat), .int .i64 (s1 + s2 : Nat), .int .i64 ms] W (DOut W nz sz cz Pv)) :
    Calls Tryz.prog 90 #[gd m1 s1 c1, gd m2 s2 c2, .int .i64 ms] w (DOut w nz sz cz Pv) := by
  have hmul : ∀ W, Calls Tryz.prog 116 #[.int .u64 c1, .int .u64 c2] W (fun e w' => e = .returned (mulTo (c1 * c2)) ∧ w' = W) := fun W => by
    rcases Nat.eq_zero_or_pos c2 with h | h
    · subst h; exact fmul_zero c1 W
    · exact fmul_any c1 c2 W hc1 h (by omega)
  have hsI : (s1 : Int) + (s2 : Int) = ((s1 + s2 : Nat) : Int) := by omega
  obtain ⟨S, hS⟩ : ∃ S, S = s1 + s2 := ⟨_, rfl⟩
  obtain ⟨q, hq⟩ : ∃ q, q = c1 * c2 := ⟨_, rfl⟩
  rw [← hq] at hmul hfit hnf
  rw [← hS] at hsI hnf
  have hSw : IntKind.i64.wrap (S : Int) = (S : Int) := wrap_nat S (by omega)
  have hm : mulTo q = .tuple #[.int .u64 q, .bool true] := by unfold mulTo; rw [if_pos hfit]
  rw [hm] at hmul
  clear hm hq hS
  obtain ⟨g, hg⟩ : ∃ g, g = w.heap.size := ⟨_, rfl⟩
  have bx := boxes3 w #[.bool m1, .int .i8 s1, .int .u64 c1] #[.bool m2, .int .i8 s2, .int .u64 c2] #[.bool false, .int .i8 0, .int .u64 0] 50 50 50 g hg
  have H_bx := Lib.hid bx; clear bx
  have H_hmul := Lib.hid hmul; clear hmul
  have H_hnf := Lib.hid hnf; clear hnf
  go_enter Tryz.func90, Tryz.ntmps90
  go_wp2_with (fail)
  generalize hw1 : ((w.alloc _).alloc _).alloc _ = w1
  rw [← hg]
  obtain ⟨r1, r2, r3, fa, _⟩ := H_bx.out w1 hw1
  have k0 := row_cell r1 0
  have k1 := row_cell r1 1
  have k2 := row_cell r1 2
  have k3 := row_cell r2 0
  have k4 := row_cell r2 1
  have k5 := row_cell r2 2
  simp at k0 k1 k2 k3 k4 k5
  have H_r1 := Lib.hid r1; clear r1
  have H_r2 := Lib.hid r2; clear r2
  have H_r3 := Lib.hid r3; clear r3
  have H_fa := Lib.hid fa; clear fa
  have H_hw1 := Lib.hid hw1; clear hw1
  have H_hg := Lib.hid hg; clear hg
  go_wp2_with (fail)
  refine (Scale_any m1 s1 c1 _ hs1).mono ?_
  rintro e w2 ⟨rfl, f2⟩
  have r1 := row_fresh H_r1.out f2
  have r2 := row_fresh H_r2.out f2
  have r3 := row_fresh H_r3.out f2
  have fa := fresh_trans H_fa.out f2
  clear H_r1 H_r2 H_r3 H_fa f2
  clear k0 k1 k2 k3 k4 k5
  have k0 := row_cell r1 0
  have k1 := row_cell r1 1
  have k2 := row_cell r1 2
  have k3 := row_cell r2 0
  have k4 := row_cell r2 1
  have k5 := row_cell r2 2
  simp at k0 k1 k2 k3 k4 k5
  have H_r1 := Lib.hid r1; clear r1
  have H_r2 := Lib.hid r2; clear r2
  have H_r3 := Lib.hid r3; clear r3
  have H_fa := Lib.hid fa; clear fa
  go_wp2_with (fail)
  refine (IsNeg_any m1 s1 c1 _).mono ?_
  rintro e w3 ⟨rfl, f3⟩
  have r1 := row_fresh H_r1.out f3
  have r2 := row_fresh H_r2.out f3
  have r3 := row_fresh H_r3.out f3
  have fa := fresh_trans H_fa.out f3
  clear H_r1 H_r2 H_r3 H_fa f3
  clear k0 k1 k2 k3 k4 k5
  have k0 := row_cell r1 0
  have k1 := row_cell r1 1
  have k2 := row_cell r1 2
  have k3 := row_cell r2 0
  have k4 := row_cell r2 1
  have k5 := row_cell r2 2
  simp at k0 k1 k2 k3 k4 k5
  have H_r1 := Lib.hid r1; clear r1
  have H_r2 := Lib.hid r2; clear r2
  have H_r3 := Lib.hid r3; clear r3
  have H_fa := Lib.hid fa; clear fa
  go_wp2_with (fail)
  refine (H_hmul.out _).mono ?_
  rintro e w4 ⟨rfl, hs⟩
  subst hs
  go_wp2_with (fail)
  refine (Scale_any m2 s2 c2 _ hs2).mono ?_
  rintro e w5 ⟨rfl, f5⟩
  have r1 := row_fresh H_r1.out f5
  have r2 := row_fresh H_r2.out f5
  have r3 := row_fresh H_r3.out f5
  have fa := fresh_trans H_fa.out f5
  clear H_r1 H_r2 H_r3 H_fa f5
  clear k0 k1 k2 k3 k4 k5
  have k0 := row_cell r1 0
  have k1 := row_cell r1 1
  have k2 := row_cell r1 2
  have k3 := row_cell r2 0
  have k4 := row_cell r2 1
  have k5 := row_cell r2 2
  simp at k0 k1 k2 k3 k4 k5
  have H_r1 := Lib.hid r1; clear r1
  have H_r2 := Lib.hid r2; clear r2
  have H_r3 := Lib.hid r3; clear r3
  have H_fa := Lib.hid fa; clear fa
  go_wp2_with (fail)
  refine (IsNeg_any m2 s2 c2 _).mono ?_
  rintro e w6 ⟨rfl, f6⟩
  have r1 := row_fresh H_r1.out f6
  have r2 := row_fresh H_r2.out f6
  have r3 := row_fresh H_r3.out f6
  have fa := fresh_trans H_fa.out f6
  clear H_r1 H_r2 H_r3 H_fa f6
  clear k0 k1 k2 k3 k4 k5
  have k0 := row_cell r1 0
  have k1 := row_cell r1 1
  have k2 := row_cell r1 2
  have k3 := row_cell r2 0
  have k4 := row_cell r2 1
  have k5 := row_cell r2 2
  simp at k0 k1 k2 k3 k4 k5
  have H_r1 := Lib.hid r1; clear r1
  have H_r2 := Lib.hid r2; clear r2
  have H_r3 := Lib.hid r3; clear r3
  have H_fa := Lib.hid fa; clear fa
  go_wp2_with (fail)
  refine (H_hnf.out _ H_fa.out).mono ?_
  rintro e w7 ⟨ev, rfl, hev, f9⟩
  have r3 := row_fresh H_r3.out f9
  have p0 := row_cell r3 0
  have p1 := row_cell r3 1
  have p2 := row_cell r3 2
  simp at p0 p1 p2
  have z0 : w7.frozen? ⟨g + 1 + 1, 0, none⟩ = false := frozen_of_row _ _ _ _ _ r3
  have z1 : w7.frozen? ⟨g + 1 + 1, 1, none⟩ = false := frozen_of_row _ _ _ _ _ r3
  have z2 : w7.frozen? ⟨g + 1 + 1, 2, none⟩ = false := frozen_of_row _ _ _ _ _ r3
  have fa := fresh_trans H_fa.out f9
  clear H_r3 H_fa f9 k0 k1 k2 k3 k4 k5
  have H_r3 := Lib.hid r3; clear r3
  have H_fa := Lib.hid fa; clear fa
  have H_hev := Lib.hid hev; clear hev
  go_wp2_with (fail)
  refine bodyPost_ret (results_cell_tmp_row rfl _ _ (g + 1 + 1) 50 #[.bool nz, .int .i8 sz, .int .u64 cz] (0, 0) _ rfl (row_set (row_set (row_set H_r3.out))) Tryz.underlying50 rfl (by kernel_rfl)) rfl ?_
  exact ⟨ev, rfl, H_hev.out, Fresh.set3 H_fa.out (by have := H_hg.out; omega)⟩

end Go.Proofs.YtjdfapoomjeabaaGreatDoor

/- Products by whole numbers of 64 bits: a result, or a fault. -/
namespace Go.Proofs.YtjdfapoomjeabaaGreatDoor
open Go.RowKit

theorem mulFint_law (m1 m2 : Bool) (c1 s1 c2 s2 ms : Nat) (hms : ms ≤ 19) (hs1 : s1 ≤ 19) (hs2 : s2 ≤ 19) (hc1 : c1 ≤ 9999999999999999999) (hc2 : c2 ≤ 9999999999999999999) :
    (∀ w, Pow10s w → ErrIs w → Calls Tryz.prog 90 #[gd m1 s1 c1, gd m2 s2 c2, .int .i64 ms] w (ClampErr w)) ∨
    ∃ nz sz cz, (∀ w, Pow10s w → ErrIs w → Calls Tryz.prog 90 #[gd m1 s1 c1, gd m2 s2 c2, .int .i64 ms] w (VRet w (.tuple #[gd nz sz cz, .nilIface]))) ∧ ResOK (zfix m1 c1 * zfix m2 c2) (10 ^ s1 * 10 ^ s2) ms nz sz cz := by
  have hd : 0 < 10 ^ s1 * 10 ^ s2 := Nat.mul_pos (Nat.pow_pos (by omega)) (Nat.pow_pos (by omega))
  by_cases hfit : c1 * c2 ≤ 9999999999999999999
  · rcases nf_law (m1 != m2) (c1 * c2) (s1 + s2) ms hfit (by omega) hms with herr | ⟨s, c, hok, hle, hgood⟩
    · exact .inl fun w hP hE => (mulFint_go m1 m2 false c1 s1 c2 s2 w ms hs1 hs2 hc1 hc2 hfit 0 0 AnErr (fun W hW => (herr W (hP.fresh hW) (hE.fresh hW)).mono (fun _ _ h => DOut.of_err h))).mono (fun _ _ h => h.err)
    · refine .inr ⟨_, s, c, fun w hP hE => (mulFint_go m1 m2 _ c1 s1 c2 s2 w ms hs1 hs2 hc1 hc2 hfit s c NoErr (fun W hW => (hok W (hP.fresh hW)).mono (fun _ _ h => DOut.of_ok h))).mono (fun _ _ h => h.ok), ?_⟩
      have hsn := mul_sign m1 m2 c1 c2
      exact res_ok hd (hgood _ _ hd (mul_frac m1 m2 c1 s1 c2 s2)) hle hsn.1 hsn.2
  · exact .inl fun w hP hE => mulFint_no m1 m2 c1 s1 c2 s2 w hE ms hs1 hs2 hc1 hc2 hfit

end Go.Proofs.YtjdfapoomjeabaaGreatDoor
