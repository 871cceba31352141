/- govalues.Decimal.addMulFint. -/
import Derived.Deep.CutBlock
import Derived.Test.YtjdfapoomjeabaaGreatDoorK5
import Derived.Test.YtjdfapoomjeabaaGreatDoorK16
import Derived.Test.YtjdfapoomjeabaaGreatDoorK17
import Derived.Test.YtjdfapoomjeabaaGreatDoorK44
namespace Go.Proofs.YtjdfapoomjeabaaGreatDoor
open Go.RowKit

theorem fmul_zero (x : Nat) (w : World) : Calls Tryz.prog 116 #[.int .u64 x, .int .u64 (0 : Nat)] w (fun e w' => e = .returned (mulTo (x * 0)) ∧ w' = w) := by
  have hr : mulTo (x * 0) = .tuple #[.int .u64 0, .bool true] := rfl
  rw [hr]
  clear hr
  go_enter Tryz.func116, Tryz.ntmps116
  go_wp2
  go_ret2
  exact ⟨rfl, rfl⟩

def fshTo (x k : Nat) : Value := if k ≤ 19 then mulTo (x * 10 ^ k) else .tuple #[.int .u64 0, .bool false]

theorem fsh_any (x k : Nat) (w : World) (hP : Pow10s w) (hx : x ≤ 9999999999999999999) (hk : k ≤ 100) :
    Calls Tryz.prog 97 #[.int .u64 x, .int .i64 k] w (fun e w' => e = .returned (fshTo x k) ∧ w' = w) := by
  unfold fshTo
  by_cases h : k ≤ 19
  · rw [if_pos h]; exact flsh_any x k w hP hx h
  · rw [if_neg h]
    have t1 : decide ((k : Int) ≤ 0) = false := by simp; omega
    have t2 : ((k : Int) == 1) = false := by rw [beq_eq_false_iff_ne]; omega
    have t3 : decide ((20 : Int) ≤ (k : Int)) = true := by simp; omega
    clear hP
    go_enter Tryz.func97, Tryz.ntmps97
    go_wp2
    go_ret2
    exact ⟨rfl, rfl⟩

theorem mulTo_yes {n : Nat} (h : n ≤ 9999999999999999999) : mulTo n = .tuple #[.int .u64 n, .bool true] := by unfold mulTo; rw [if_pos h]
theorem mulTo_no {n : Nat} (h : ¬ n ≤ 9999999999999999999) : mulTo n = .tuple #[.int .u64 0, .bool false] := by unfold mulTo; rw [if_neg h]

theorem cells9 {V : World} {g : Nat} {m1 m2 m3 : Bool} {c1 s1 c2 s2 c3 s3 : Nat} {T1 T2 T3 : TypeId} (r1 : V.heap[g]? = some (.cells #[.bool m1, .int .i8 s1, .int .u64 c1] T1 (0, 0))) (r2 : V.heap[g + 1]? = some (.cells #[.bool m2, .int .i8 s2, .int .u64 c2] T2 (0, 0))) (r3 : V.heap[g + 1 + 1]? = some (.cells #[.bool m3, .int .i8 s3, .int .u64 c3] T3 (0, 0))) :
    V.cell? ⟨g, 0, none⟩ = some (.bool m1) ∧ V.cell? ⟨g, 1, none⟩ = some (.int .i8 s1) ∧ V.cell? ⟨g, 2, none⟩ = some (.int .u64 c1) ∧ V.cell? ⟨g + 1, 0, none⟩ = some (.bool m2) ∧ V.cell? ⟨g + 1, 1, none⟩ = some (.int .i8 s2) ∧ V.cell? ⟨g + 1, 2, none⟩ = some (.int .u64 c2) ∧
    V.cell? ⟨g + 1 + 1, 0, none⟩ = some (.bool m3) ∧ V.cell? ⟨g + 1 + 1, 1, none⟩ = some (.int .i8 s3) ∧ V.cell? ⟨g + 1 + 1, 2, none⟩ = some (.int .u64 c3) :=
  ⟨row_cell r1 0, row_cell r1 1, row_cell r1 2, row_cell r2 0, row_cell r2 1, row_cell r2 2, row_cell r3 0, row_cell r3 1, row_cell r3 2⟩

/-- does all that is reckoned stay below ten to the power of 19? -/
def amFit (c2 c3 k A B C : Nat) : Prop := c2 * c3 ≤ 9999999999999999999 ∧ k ≤ 19 ∧ A ≤ 9999999999999999999 ∧ B ≤ 9999999999999999999 ∧ C ≤ 9999999999999999999

def AMOut (w : World) (fit : Prop) (nz : Bool) (sz cz : Nat) (Pv : Value → Prop) (e : Ending) (w' : World) : Prop := (fit ∧ DOut w nz sz cz Pv e w') ∨ (¬ fit ∧ ClampErr w e w')

set_option maxRecDepth 20000 in
set_option maxHeartbeats 4000000 in
theorem addMulFint_go (m1 m2 m3 : Bool) (c1 s1 c2 s2 c3 s3 ms : Nat) (w : World) (hE : ErrIs w) (hP : Pow10s w) (hs1 : s1 ≤ 19) (hs2 : s2 ≤ 19) (hs3 : s3 ≤ 19) (hc1 : c1 ≤ 9999999999999999999) (hc2 : c2 ≤ 9999999999999999999) (hc3 : c3 ≤ 9999999999999999999)
    (nz : Bool) (sz cz : Nat) (Pv : Value → Prop) (M : Bool) (hM : M = (m2 != m3)) (T : Nat) (hT : T = s2 + s3) (S : Nat) (hS : S = max s1 T) (A B : Nat) (hA : A = c1 * 10 ^ (S - s1)) (hB : B = c2 * c3 * 10 ^ (S - T))
    (hnf : amFit c2 c3 (S - s1) A B (sumC m1 M A B) → ∀ W, Fresh w W → Calls Tryz.prog 100 #[.bool (sumS m1 M A B), .int .u64 (sumC m1 M A B : Nat), .int .i64 (S : Nat), .int .i64 ms] W (DOut W nz sz cz Pv)) :
    Calls Tryz.prog 109 #[gd m1 s1 c1, gd m2 s2 c2, gd m3 s3 c3, .int .i64 ms] w (AMOut w (amFit c2 c3 (S - s1) A B (sumC m1 M A B)) nz sz cz Pv) := by
  have hmul : ∀ W, Calls Tryz.prog 116 #[.int .u64 c2, .int .u64 c3] W (fun e w' => e = .returned (mulTo (c2 * c3)) ∧ w' = W) := fun W => by
    rcases Nat.eq_zero_or_pos c3 with h | h
    · subst h; exact fmul_zero c2 W
    · exact fmul_any c2 c3 W hc2 h (by omega)
  have hTI : (s2 : Int) + (s3 : Int) = (T : Int) := by omega
  have hTw : IntKind.i64.wrap (T : Int) = (T : Int) := wrap_nat T (by omega)
  have hT38 : T ≤ 38 := by omega
  obtain ⟨fit, hfit⟩ : ∃ p, p = amFit c2 c3 (S - s1) A B (sumC m1 M A B) := ⟨_, rfl⟩
  rw [← hfit] at hnf ⊢
  unfold amFit at hfit
  obtain ⟨cc, hcce⟩ : ∃ cc, cc = c2 * c3 := ⟨_, rfl⟩
  rw [← hcce] at hB hmul hfit
  obtain ⟨g, hg⟩ : ∃ g, g = w.heap.size := ⟨_, rfl⟩
  have bx := boxes4 w #[.bool m1, .int .i8 s1, .int .u64 c1] #[.bool m2, .int .i8 s2, .int .u64 c2] #[.bool m3, .int .i8 s3, .int .u64 c3] #[.bool false, .int .i8 0, .int .u64 0] 50 50 50 50 g hg
  have H_bx := Lib.hid bx; clear bx
  have H_hE := Lib.hid hE; clear hE
  have H_hP := Lib.hid hP; clear hP
  have H_hnf := Lib.hid hnf; clear hnf
  have H_hA := Lib.hid hA; clear hA
  have H_hB := Lib.hid hB; clear hB
  have H_hS := Lib.hid hS; clear hS
  have H_hT := Lib.hid hT; clear hT
  have H_hM := Lib.hid hM; clear hM
  have H_hs1 := Lib.hid hs1; clear hs1
  have H_hs2 := Lib.hid hs2; clear hs2
  have H_hs3 := Lib.hid hs3; clear hs3
  have H_hc1 := Lib.hid hc1; clear hc1
  have H_hc2 := Lib.hid hc2; clear hc2
  have H_hc3 := Lib.hid hc3; clear hc3
  have H_hcce := Lib.hid hcce; clear hcce
  have H_hT38 := Lib.hid hT38; clear hT38
  have H_hmul := Lib.hid hmul; clear hmul
  have H_hfit := Lib.hid hfit; clear hfit
  go_enter Tryz.func109, Tryz.ntmps109
  go_wp2_with (fail)
  generalize hw1 : (((w.alloc _).alloc _).alloc _).alloc _ = w1
  rw [← hg]
  obtain ⟨r1, r2, r3, r4, fa⟩ := H_bx.out w1 hw1
  obtain ⟨k0, k1, k2, k3, k4, k5, k6, k7, k8⟩ := cells9 r1 r2 r3
  have H_r1 := Lib.hid r1; clear r1
  have H_r2 := Lib.hid r2; clear r2
  have H_r3 := Lib.hid r3; clear r3
  have H_r4 := Lib.hid r4; clear r4
  have H_fa := Lib.hid fa; clear fa
  have H_hw1 := Lib.hid hw1; clear hw1
  have H_hg := Lib.hid hg; clear hg
  go_wp2_with (fail)
  refine (Scale_any m1 s1 c1 _ H_hs1.out).mono ?_
  rintro e w2 ⟨rfl, f9⟩
  have r1 := row_fresh H_r1.out f9
  have r2 := row_fresh H_r2.out f9
  have r3 := row_fresh H_r3.out f9
  have r4 := row_fresh H_r4.out f9
  have fa := fresh_trans H_fa.out f9
  clear H_r1 H_r2 H_r3 H_r4 H_fa f9
  clear k0 k1 k2 k3 k4 k5 k6 k7 k8
  obtain ⟨k0, k1, k2, k3, k4, k5, k6, k7, k8⟩ := cells9 r1 r2 r3
  have H_r1 := Lib.hid r1; clear r1
  have H_r2 := Lib.hid r2; clear r2
  have H_r3 := Lib.hid r3; clear r3
  have H_r4 := Lib.hid r4; clear r4
  have H_fa := Lib.hid fa; clear fa
  go_wp2_with (fail)
  refine (IsNeg_any m1 s1 c1 _).mono ?_
  rintro e w3 ⟨rfl, f9⟩
  have r1 := row_fresh H_r1.out f9
  have r2 := row_fresh H_r2.out f9
  have r3 := row_fresh H_r3.out f9
  have r4 := row_fresh H_r4.out f9
  have fa := fresh_trans H_fa.out f9
  clear H_r1 H_r2 H_r3 H_r4 H_fa f9
  clear k0 k1 k2 k3 k4 k5 k6 k7 k8
  obtain ⟨k0, k1, k2, k3, k4, k5, k6, k7, k8⟩ := cells9 r1 r2 r3
  have H_r1 := Lib.hid r1; clear r1
  have H_r2 := Lib.hid r2; clear r2
  have H_r3 := Lib.hid r3; clear r3
  have H_r4 := Lib.hid r4; clear r4
  have H_fa := Lib.hid fa; clear fa
  go_wp2_with (fail)
  refine (Scale_any m2 s2 c2 _ H_hs2.out).mono ?_
  rintro e w4 ⟨rfl, f9⟩
  have r1 := row_fresh H_r1.out f9
  have r2 := row_fresh H_r2.out f9
  have r3 := row_fresh H_r3.out f9
  have r4 := row_fresh H_r4.out f9
  have fa := fresh_trans H_fa.out f9
  clear H_r1 H_r2 H_r3 H_r4 H_fa f9
  clear k0 k1 k2 k3 k4 k5 k6 k7 k8
  obtain ⟨k0, k1, k2, k3, k4, k5, k6, k7, k8⟩ := cells9 r1 r2 r3
  have H_r1 := Lib.hid r1; clear r1
  have H_r2 := Lib.hid r2; clear r2
  have H_r3 := Lib.hid r3; clear r3
  have H_r4 := Lib.hid r4; clear r4
  have H_fa := Lib.hid fa; clear fa
  go_wp2_with (fail)
  refine (IsNeg_any m2 s2 c2 _).mono ?_
  rintro e w5 ⟨rfl, f9⟩
  have r1 := row_fresh H_r1.out f9
  have r2 := row_fresh H_r2.out f9
  have r3 := row_fresh H_r3.out f9
  have r4 := row_fresh H_r4.out f9
  have fa := fresh_trans H_fa.out f9
  clear H_r1 H_r2 H_r3 H_r4 H_fa f9
  clear k0 k1 k2 k3 k4 k5 k6 k7 k8
  obtain ⟨k0, k1, k2, k3, k4, k5, k6, k7, k8⟩ := cells9 r1 r2 r3
  have H_r1 := Lib.hid r1; clear r1
  have H_r2 := Lib.hid r2; clear r2
  have H_r3 := Lib.hid r3; clear r3
  have H_r4 := Lib.hid r4; clear r4
  have H_fa := Lib.hid fa; clear fa
  go_wp2_with (fail)
  refine (H_hmul.out _).mono ?_
  rintro e w6 ⟨rfl, hs⟩
  subst hs
  by_cases hcm : cc ≤ 9999999999999999999
  case neg =>
    rw [mulTo_no hcm]
    have hno : ¬ fit := fun h => hcm (by rw [H_hfit.out] at h; exact h.1)
    have H_hcm := Lib.hid hcm; clear hcm
    have H_hno := Lib.hid hno; clear hno
    go_wp2_with (fail)
    obtain ⟨ae, hae⟩ := H_hE.out.fresh H_fa.out
    have hne : 0 ≠ g + 1 + 1 + 1 := by
      obtain ⟨_, h0⟩ := H_hE.out
      have := ErrIs.lt h0
      have := H_hg.out
      omega
    have p0 := row_cell H_r4.out 0
    have p1 := row_cell H_r4.out 1
    have p2 := row_cell H_r4.out 2
    simp at p0 p1 p2
    have z0 : w6.frozen? ⟨g + 1 + 1 + 1, 0, none⟩ = false := frozen_of_row _ _ _ _ _ H_r4.out
    have z1 : w6.frozen? ⟨g + 1 + 1 + 1, 1, none⟩ = false := frozen_of_row _ _ _ _ _ H_r4.out
    have z2 : w6.frozen? ⟨g + 1 + 1 + 1, 2, none⟩ = false := frozen_of_row _ _ _ _ _ H_r4.out
    go_wp2_with (fail)
    go_region_held3 (fun (w' : World) => w'.cell? ⟨0, 0, none⟩ = some (.iface 91 (.pointer (some ae)))) (first | exact hae | exact far3 hne hae) (fail)
    go_wp2
    refine bodyPost_ret (results_cell_tmp_row rfl _ _ (g + 1 + 1 + 1) 50 #[.bool false, .int .i8 0, .int .u64 0] (0, 0) _ rfl (row_set (row_set (row_set H_r4.out))) Tryz.underlying50 rfl (by kernel_rfl)) rfl ?_
    exact .inr ⟨H_hno.out, ae, rfl, Fresh.set3 (H_fa.out.drewN 1) (by have := H_hg.out; omega)⟩
  rw [mulTo_yes hcm]
  have H_hcm := Lib.hid hcm; clear hcm
  go_wp2_with (fail)
  refine (Scale_any m3 s3 c3 _ H_hs3.out).mono ?_
  rintro e w7 ⟨rfl, f9⟩
  have r1 := row_fresh H_r1.out f9
  have r2 := row_fresh H_r2.out f9
  have r3 := row_fresh H_r3.out f9
  have r4 := row_fresh H_r4.out f9
  have fa := fresh_trans H_fa.out f9
  clear H_r1 H_r2 H_r3 H_r4 H_fa f9
  clear k0 k1 k2 k3 k4 k5 k6 k7 k8
  obtain ⟨k0, k1, k2, k3, k4, k5, k6, k7, k8⟩ := cells9 r1 r2 r3
  have H_r1 := Lib.hid r1; clear r1
  have H_r2 := Lib.hid r2; clear r2
  have H_r3 := Lib.hid r3; clear r3
  have H_r4 := Lib.hid r4; clear r4
  have H_fa := Lib.hid fa; clear fa
  go_wp2_with (fail)
  refine (IsNeg_any m3 s3 c3 _).mono ?_
  rintro e w8 ⟨rfl, f9⟩
  have r1 := row_fresh H_r1.out f9
  have r2 := row_fresh H_r2.out f9
  have r3 := row_fresh H_r3.out f9
  have r4 := row_fresh H_r4.out f9
  have fa := fresh_trans H_fa.out f9
  clear H_r1 H_r2 H_r3 H_r4 H_fa f9
  clear k0 k1 k2 k3 k4 k5 k6 k7 k8
  obtain ⟨k0, k1, k2, k3, k4, k5, k6, k7, k8⟩ := cells9 r1 r2 r3
  have H_r1 := Lib.hid r1; clear r1
  have H_r2 := Lib.hid r2; clear r2
  have H_r3 := Lib.hid r3; clear r3
  have H_r4 := Lib.hid r4; clear r4
  have H_fa := Lib.hid fa; clear fa
  go_upto_block 0 with (fail)
  rw [show (!(m2 == m3)) = M from H_hM.out.symm]
  go_cut [10, 11, 13] from 50 (fun s10 s11 s13 wx => s10 = .int .u64 A ∧ s11 = .int .i64 S ∧ s13 = .int .u64 B ∧ Hid (S - s1 ≤ 19 ∧ A ≤ 9999999999999999999 ∧ B ≤ 9999999999999999999) ∧ wx = w8)
  case first =>
    rcases Nat.lt_trichotomy s1 T with hsc | hsc | hsc
    · have t1 : decide ((T : Int) < (s1 : Int)) = false := by simp; omega
      have t1n : ¬ T < s1 := by omega
      have t2 : decide ((s1 : Int) < (T : Int)) = true := by simp; omega
      have hSe : S = T := by have := H_hS.out; omega
      obtain ⟨k, hk⟩ : ∃ k, k = T - s1 := ⟨_, rfl⟩
      have hkI : (T : Int) - (s1 : Int) = (k : Int) := by omega
      have hkw : IntKind.i64.wrap (k : Int) = (k : Int) := wrap_nat k (by have := H_hs1.out; have := H_hT38.out; omega)
      have hk60 : k ≤ 60 := by have := H_hs1.out; have := H_hT38.out; omega
      have hks : k = S - s1 ∧ S - T = 0 := by omega
      have hBe : B = cc := by rw [H_hB.out, hks.2, Nat.pow_zero, Nat.mul_one]
      have hAe : A = c1 * 10 ^ k := by rw [H_hA.out, hks.1]
      by_cases hft : k ≤ 19 ∧ A ≤ 9999999999999999999
      case neg =>
        have hf : fshTo c1 k = .tuple #[.int .u64 0, .bool false] := by
          unfold fshTo
          by_cases hk9 : k ≤ 19
          · rw [if_pos hk9, ← hAe]; exact mulTo_no (fun h => hft ⟨hk9, h⟩)
          · rw [if_neg hk9]
        have hno : ¬ fit := fun h => by
          rw [H_hfit.out] at h
          exact hft ⟨by have := H_hs1.out; have := h.2.1; omega, h.2.2.1⟩
        have hlsh := fun W (hW : Fresh w W) => fsh_any c1 k W (H_hP.out.fresh hW) H_hc1.out (by omega)
        rw [hf] at hlsh
        clear hf hft
        have H_hno := Lib.hid hno; clear hno
        have H_hsc := Lib.hid hsc; clear hsc
        have H_hk := Lib.hid hk; clear hk
        have H_hks := Lib.hid hks; clear hks
        have H_hSe := Lib.hid hSe; clear hSe
        have H_hAe := Lib.hid hAe; clear hAe
        have H_hBe := Lib.hid hBe; clear hBe
        have H_hlsh := Lib.hid hlsh; clear hlsh
        go_wp2_with (fail)
        refine (H_hlsh.out _ H_fa.out).mono ?_
        rintro e w9 ⟨rfl, hs⟩
        subst hs
        go_wp2_with (fail)
        obtain ⟨ae, hae⟩ := H_hE.out.fresh H_fa.out
        have hne : 0 ≠ g + 1 + 1 + 1 := by
          obtain ⟨_, h0⟩ := H_hE.out
          have := ErrIs.lt h0
          have := H_hg.out
          omega
        have p0 := row_cell H_r4.out 0
        have p1 := row_cell H_r4.out 1
        have p2 := row_cell H_r4.out 2
        simp at p0 p1 p2
        have z0 : w9.frozen? ⟨g + 1 + 1 + 1, 0, none⟩ = false := frozen_of_row _ _ _ _ _ H_r4.out
        have z1 : w9.frozen? ⟨g + 1 + 1 + 1, 1, none⟩ = false := frozen_of_row _ _ _ _ _ H_r4.out
        have z2 : w9.frozen? ⟨g + 1 + 1 + 1, 2, none⟩ = false := frozen_of_row _ _ _ _ _ H_r4.out
        go_wp2_with (fail)
        go_region_held3 (fun (w' : World) => w'.cell? ⟨0, 0, none⟩ = some (.iface 91 (.pointer (some ae)))) (first | exact hae | exact far3 hne hae) (fail)
        go_wp2
        refine bodyPost_ret (results_cell_tmp_row rfl _ _ (g + 1 + 1 + 1) 50 #[.bool false, .int .i8 0, .int .u64 0] (0, 0) _ rfl (row_set (row_set (row_set H_r4.out))) Tryz.underlying50 rfl (by kernel_rfl)) rfl ?_
        exact .inr ⟨H_hno.out, ae, rfl, Fresh.set3 (H_fa.out.drewN 1) (by have := H_hg.out; omega)⟩
      have hf : fshTo c1 k = .tuple #[.int .u64 A, .bool true] := by unfold fshTo; rw [if_pos hft.1, ← hAe, mulTo_yes hft.2]
      have hlsh := fun W (hW : Fresh w W) => fsh_any c1 k W (H_hP.out.fresh hW) H_hc1.out (by omega)
      rw [hf] at hlsh
      clear hf
      have H_hsc := Lib.hid hsc; clear hsc
      have H_hk := Lib.hid hk; clear hk
      have H_hks := Lib.hid hks; clear hks
      have H_hSe := Lib.hid hSe; clear hSe
      have H_hAe := Lib.hid hAe; clear hAe
      have H_hBe := Lib.hid hBe; clear hBe
      have H_hlsh := Lib.hid hlsh; clear hlsh
      have H_hft := Lib.hid hft; clear hft
      go_wp2_with (fail)
      refine (H_hlsh.out _ H_fa.out).mono ?_
      rintro e w9 ⟨rfl, hs⟩
      subst hs
      go_wp2_with (fail)
      go_meet
      case rel => exact ⟨rfl, by rw [H_hSe.out], by rw [H_hBe.out], Lib.hid ⟨by have := H_hks.out; have := H_hft.out; omega, H_hft.out.2, by rw [H_hBe.out]; exact H_hcm.out⟩, rfl⟩
    · have t1 : decide ((T : Int) < (s1 : Int)) = false := by simp; omega
      have t1n : ¬ T < s1 := by omega
      have t2 : decide ((s1 : Int) < (T : Int)) = false := by simp; omega
      have t2n : ¬ s1 < T := by omega
      have hSe : S = s1 := by have := H_hS.out; omega
      have hAe : A = c1 := by rw [H_hA.out, hSe, Nat.sub_self, Nat.pow_zero, Nat.mul_one]
      have hBe : B = cc := by rw [H_hB.out, hSe, hsc, Nat.sub_self, Nat.pow_zero, Nat.mul_one]
      have H_hsc := Lib.hid hsc; clear hsc
      have H_hSe := Lib.hid hSe; clear hSe
      have H_hAe := Lib.hid hAe; clear hAe
      have H_hBe := Lib.hid hBe; clear hBe
      go_wp2_with (fail)
      go_meet
      case rel => exact ⟨by rw [H_hAe.out], by rw [H_hSe.out], by rw [H_hBe.out], Lib.hid ⟨by rw [H_hSe.out]; omega, by rw [H_hAe.out]; exact H_hc1.out, by rw [H_hBe.out]; exact H_hcm.out⟩, rfl⟩
    · have t1 : decide ((T : Int) < (s1 : Int)) = true := by simp; omega
      have hSe : S = s1 := by have := H_hS.out; omega
      obtain ⟨k, hk⟩ : ∃ k, k = s1 - T := ⟨_, rfl⟩
      have hkI : (s1 : Int) - (T : Int) = (k : Int) := by omega
      have hkw : IntKind.i64.wrap (k : Int) = (k : Int) := wrap_nat k (by have := H_hs1.out; have := H_hT38.out; omega)
      have hk60 : k ≤ 60 := by have := H_hs1.out; have := H_hT38.out; omega
      have hks : k = S - T ∧ S - s1 = 0 := by omega
      have hAe : A = c1 := by rw [H_hA.out, hks.2, Nat.pow_zero, Nat.mul_one]
      have hBe : B = cc * 10 ^ k := by rw [H_hB.out, hks.1]
      by_cases hft : k ≤ 19 ∧ B ≤ 9999999999999999999
      case neg =>
        have hf : fshTo cc k = .tuple #[.int .u64 0, .bool false] := by
          unfold fshTo
          by_cases hk9 : k ≤ 19
          · rw [if_pos hk9, ← hBe]; exact mulTo_no (fun h => hft ⟨hk9, h⟩)
          · rw [if_neg hk9]
        have hno : ¬ fit := fun h => by
          rw [H_hfit.out] at h
          exact hft ⟨by have := H_hs1.out; have := h.2.1; omega, h.2.2.2.1⟩
        have hlsh := fun W (hW : Fresh w W) => fsh_any cc k W (H_hP.out.fresh hW) H_hcm.out (by omega)
        rw [hf] at hlsh
        clear hf hft
        have H_hno := Lib.hid hno; clear hno
        have H_hsc := Lib.hid hsc; clear hsc
        have H_hk := Lib.hid hk; clear hk
        have H_hks := Lib.hid hks; clear hks
        have H_hSe := Lib.hid hSe; clear hSe
        have H_hAe := Lib.hid hAe; clear hAe
        have H_hBe := Lib.hid hBe; clear hBe
        have H_hlsh := Lib.hid hlsh; clear hlsh
        go_wp2_with (fail)
        refine (H_hlsh.out _ H_fa.out).mono ?_
        rintro e w9 ⟨rfl, hs⟩
        subst hs
        go_wp2_with (fail)
        obtain ⟨ae, hae⟩ := H_hE.out.fresh H_fa.out
        have hne : 0 ≠ g + 1 + 1 + 1 := by
          obtain ⟨_, h0⟩ := H_hE.out
          have := ErrIs.lt h0
          have := H_hg.out
          omega
        have p0 := row_cell H_r4.out 0
        have p1 := row_cell H_r4.out 1
        have p2 := row_cell H_r4.out 2
        simp at p0 p1 p2
        have z0 : w9.frozen? ⟨g + 1 + 1 + 1, 0, none⟩ = false := frozen_of_row _ _ _ _ _ H_r4.out
        have z1 : w9.frozen? ⟨g + 1 + 1 + 1, 1, none⟩ = false := frozen_of_row _ _ _ _ _ H_r4.out
        have z2 : w9.frozen? ⟨g + 1 + 1 + 1, 2, none⟩ = false := frozen_of_row _ _ _ _ _ H_r4.out
        go_wp2_with (fail)
        go_region_held3 (fun (w' : World) => w'.cell? ⟨0, 0, none⟩ = some (.iface 91 (.pointer (some ae)))) (first | exact hae | exact far3 hne hae) (fail)
        go_wp2
        refine bodyPost_ret (results_cell_tmp_row rfl _ _ (g + 1 + 1 + 1) 50 #[.bool false, .int .i8 0, .int .u64 0] (0, 0) _ rfl (row_set (row_set (row_set H_r4.out))) Tryz.underlying50 rfl (by kernel_rfl)) rfl ?_
        exact .inr ⟨H_hno.out, ae, rfl, Fresh.set3 (H_fa.out.drewN 1) (by have := H_hg.out; omega)⟩
      have hf : fshTo cc k = .tuple #[.int .u64 B, .bool true] := by unfold fshTo; rw [if_pos hft.1, ← hBe, mulTo_yes hft.2]
      have hlsh := fun W (hW : Fresh w W) => fsh_any cc k W (H_hP.out.fresh hW) H_hcm.out (by omega)
      rw [hf] at hlsh
      clear hf
      have H_hsc := Lib.hid hsc; clear hsc
      have H_hk := Lib.hid hk; clear hk
      have H_hks := Lib.hid hks; clear hks
      have H_hSe := Lib.hid hSe; clear hSe
      have H_hAe := Lib.hid hAe; clear hAe
      have H_hBe := Lib.hid hBe; clear hBe
      have H_hlsh := Lib.hid hlsh; clear hlsh
      have H_hft := Lib.hid hft; clear hft
      go_wp2_with (fail)
      refine (H_hlsh.out _ H_fa.out).mono ?_
      rintro e w9 ⟨rfl, hs⟩
      subst hs
      go_wp2_with (fail)
      go_meet
      case rel => exact ⟨by rw [H_hAe.out], by rw [H_hSe.out], rfl, Lib.hid ⟨by have := H_hks.out; have := H_hft.out; omega, by rw [H_hAe.out]; exact H_hc1.out, H_hft.out.2⟩, rfl⟩
  case rest =>
    obtain ⟨rfl, rfl, rfl, hAB, hwx⟩ := hcut
    subst hwx
    go_upto_if 85 with (fail)
    go_cut [10, 12] from 85 (fun s10 s12 wx => s10 = .int .u64 (sumC m1 M A B) ∧ s12 = .bool (sumS m1 M A B) ∧ Hid (sumC m1 M A B ≤ 9999999999999999999) ∧ wx = wc)
    case first =>
      by_cases hsg : m1 = M
      · have t4 : (m1 == M) = true := by simp [hsg]
        rw [t4]
        have hs0 : sumS m1 M A B = m1 := by unfold sumS; rw [if_pos hsg]
        have hq0 : sumC m1 M A B = A + B := by unfold sumC; rw [if_pos hsg]
        have hadd := fun W => fadd_any A B W hAB.out.2.1 hAB.out.2.2
        by_cases hft : A + B ≤ 9999999999999999999
        case neg =>
          have hno : ¬ fit := fun h => by rw [H_hfit.out] at h; exact hft (by rw [← hq0]; exact h.2.2.2.2)
          rw [mulTo_no hft] at hadd
          have H_hno := Lib.hid hno; clear hno
          have H_hs0 := Lib.hid hs0; clear hs0
          have H_hq0 := Lib.hid hq0; clear hq0
          have H_hadd := Lib.hid hadd; clear hadd
          have H_hft := Lib.hid hft; clear hft
          have H_hsg := Lib.hid hsg; clear hsg
          go_wp2_with (fail)
          refine (H_hadd.out _).mono ?_
          rintro e w31 ⟨rfl, hs⟩
          subst hs
          go_wp2_with (fail)
          obtain ⟨ae, hae⟩ := H_hE.out.fresh H_fa.out
          have hne : 0 ≠ g + 1 + 1 + 1 := by
            obtain ⟨_, h0⟩ := H_hE.out
            have := ErrIs.lt h0
            have := H_hg.out
            omega
          have p0 := row_cell H_r4.out 0
          have p1 := row_cell H_r4.out 1
          have p2 := row_cell H_r4.out 2
          simp at p0 p1 p2
          have z0 : w31.frozen? ⟨g + 1 + 1 + 1, 0, none⟩ = false := frozen_of_row _ _ _ _ _ H_r4.out
          have z1 : w31.frozen? ⟨g + 1 + 1 + 1, 1, none⟩ = false := frozen_of_row _ _ _ _ _ H_r4.out
          have z2 : w31.frozen? ⟨g + 1 + 1 + 1, 2, none⟩ = false := frozen_of_row _ _ _ _ _ H_r4.out
          go_wp2_with (fail)
          go_region_held3 (fun (w' : World) => w'.cell? ⟨0, 0, none⟩ = some (.iface 91 (.pointer (some ae)))) (first | exact hae | exact far3 hne hae) (fail)
          go_wp2
          refine bodyPost_ret (results_cell_tmp_row rfl _ _ (g + 1 + 1 + 1) 50 #[.bool false, .int .i8 0, .int .u64 0] (0, 0) _ rfl (row_set (row_set (row_set H_r4.out))) Tryz.underlying50 rfl (by kernel_rfl)) rfl ?_
          exact .inr ⟨H_hno.out, ae, rfl, Fresh.set3 (H_fa.out.drewN 1) (by have := H_hg.out; omega)⟩
        rw [mulTo_yes hft] at hadd
        have H_hs0 := Lib.hid hs0; clear hs0
        have H_hq0 := Lib.hid hq0; clear hq0
        have H_hadd := Lib.hid hadd; clear hadd
        have H_hft := Lib.hid hft; clear hft
        have H_hsg := Lib.hid hsg; clear hsg
        go_wp2_with (fail)
        refine (H_hadd.out _).mono ?_
        rintro e w31 ⟨rfl, hs⟩
        subst hs
        go_wp2_with (fail)
        go_meet
        case rel => exact ⟨by rw [H_hq0.out]; rfl, by rw [H_hs0.out], Lib.hid (by rw [H_hq0.out]; exact H_hft.out), rfl⟩
      · have t4 : (m1 == M) = false := by simpa using hsg
        rw [t4]
        have hq0 : sumC m1 M A B = adf A B := by unfold sumC; rw [if_neg hsg]
        have hql : adf A B ≤ 9999999999999999999 := adf_le hAB.out.2.1 hAB.out.2.2
        have hsub := fun W => fsubAbs_any A B W hAB.out.2.1 hAB.out.2.2
        by_cases hl : A < B
        · have hs0 : sumS m1 M A B = M := sumS_less hsg hl
          have t5 : decide ((A : Int) < (B : Int)) = true := by simp; omega
          generalize adf A B = q at *
          have H_hs0 := Lib.hid hs0; clear hs0
          have H_hq0 := Lib.hid hq0; clear hq0
          have H_hql := Lib.hid hql; clear hql
          have H_hsub := Lib.hid hsub; clear hsub
          have H_hsg := Lib.hid hsg; clear hsg
          go_wp2_with (fail)
          refine (H_hsub.out _).mono ?_
          rintro e w31 ⟨rfl, hs⟩
          subst hs
          go_wp2_with (fail)
          go_meet
          case rel => exact ⟨by rw [H_hq0.out], by rw [H_hs0.out], Lib.hid (by rw [H_hq0.out]; exact H_hql.out), rfl⟩
        · have hs0 : sumS m1 M A B = m1 := sumS_more hsg hl
          have t5 : decide ((A : Int) < (B : Int)) = false := by simp; omega
          generalize adf A B = q at *
          have H_hs0 := Lib.hid hs0; clear hs0
          have H_hq0 := Lib.hid hq0; clear hq0
          have H_hql := Lib.hid hql; clear hql
          have H_hsub := Lib.hid hsub; clear hsub
          have H_hsg := Lib.hid hsg; clear hsg
          go_wp2_with (fail)
          refine (H_hsub.out _).mono ?_
          rintro e w31 ⟨rfl, hs⟩
          subst hs
          go_wp2_with (fail)
          go_meet
          case rel => exact ⟨by rw [H_hq0.out], by rw [H_hs0.out], Lib.hid (by rw [H_hq0.out]; exact H_hql.out), rfl⟩
    case rest =>
      obtain ⟨rfl, rfl, hCs, hwx⟩ := hcut
      have hfy : fit := by rw [H_hfit.out]; exact ⟨H_hcm.out, hAB.out.1, hAB.out.2.1, hAB.out.2.2, hCs.out⟩
      have hnf := H_hnf.out hfy
      subst hwx
      generalize sumS m1 M A B = sg at *
      generalize sumC m1 M A B = sc at *
      have H_hfy := Lib.hid hfy; clear hfy
      have H_hnf := Lib.hid hnf; clear hnf
      go_wp2_with (fail)
      refine (H_hnf.out _ H_fa.out).mono ?_
      rintro e w9 ⟨ev, rfl, hev, f9⟩
      have r4 := row_fresh H_r4.out f9
      have p0 := row_cell r4 0
      have p1 := row_cell r4 1
      have p2 := row_cell r4 2
      simp at p0 p1 p2
      have z0 : w9.frozen? ⟨g + 1 + 1 + 1, 0, none⟩ = false := frozen_of_row _ _ _ _ _ r4
      have z1 : w9.frozen? ⟨g + 1 + 1 + 1, 1, none⟩ = false := frozen_of_row _ _ _ _ _ r4
      have z2 : w9.frozen? ⟨g + 1 + 1 + 1, 2, none⟩ = false := frozen_of_row _ _ _ _ _ r4
      have fa := fresh_trans H_fa.out f9
      clear H_r4 H_fa f9
      have H_r4 := Lib.hid r4; clear r4
      have H_fa := Lib.hid fa; clear fa
      have H_hev := Lib.hid hev; clear hev
      go_wp2_with (fail)
      refine bodyPost_ret (results_cell_tmp_row rfl _ _ (g + 1 + 1 + 1) 50 #[.bool nz, .int .i8 sz, .int .u64 cz] (0, 0) _ rfl (row_set (row_set (row_set H_r4.out))) Tryz.underlying50 rfl (by kernel_rfl)) rfl ?_
      exact .inl ⟨H_hfy.out, ev, rfl, H_hev.out, Fresh.set3 H_fa.out (by have := H_hg.out; omega)⟩

end Go.Proofs.YtjdfapoomjeabaaGreatDoor
