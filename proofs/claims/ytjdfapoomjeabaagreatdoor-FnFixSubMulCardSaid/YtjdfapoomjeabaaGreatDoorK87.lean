/- govalues.Decimal.addMulBint. -/
import Derived.Deep.CutBlock
import Derived.Test.YtjdfapoomjeabaaGreatDoorK48
import Derived.Test.YtjdfapoomjeabaaGreatDoorK86
namespace Go.Proofs.YtjdfapoomjeabaaGreatDoor
open Go.RowKit

theorem cmpN_not {a e : Nat} (h : ¬ a < e) : decide (0 < cmpN e a) = false := by
  unfold cmpN
  split
  · rfl
  · rfl

set_option maxRecDepth 20000 in
set_option maxHeartbeats 4000000 in
theorem addMulBint_go (m1 m2 m3 : Bool) (c1 s1 c2 s2 c3 s3 ms : Nat) (w : World) (hG : Glob w) (hP : Pow10s w) (hs1 : s1 ≤ 19) (hs2 : s2 ≤ 19) (hs3 : s3 ≤ 19) (hc1 : c1 ≤ 9999999999999999999) (hc2 : c2 ≤ 9999999999999999999) (hc3 : c3 ≤ 9999999999999999999)
    (nz : Bool) (sz cz : Nat) (Pv : Value → Prop) (M : Bool) (hM : M = (m2 != m3)) (T : Nat) (hT : T = s2 + s3) (S : Nat) (hS : S = max s1 T) (A B : Nat) (hA : A = c1 * 10 ^ (S - s1)) (hB : B = c2 * c3 * 10 ^ (S - T))
    (hnb : ∀ V v, Fresh w V → (∀ k, v.ownBlock = some k → w.heap.size + 7 ≤ k) → BI V (w.heap.size + 4) v (sumC m1 M A B) → Calls Tryz.prog 108 #[.bool (sumS m1 M A B), .pointer (some ⟨w.heap.size + 4, 0, none⟩), .int .i64 (S : Nat), .int .i64 ms] V (NBOut V (w.heap.size + 4) v nz sz cz Pv)) :
    Calls Tryz.prog 110 #[gd m1 s1 c1, gd m2 s2 c2, gd m3 s3 c3, .int .i64 ms] w (DOut w nz sz cz Pv) := by
  have hcw1 : c1 < wpow 39 := wpow_big (by omega)
  have hcw2 : c2 < wpow 39 := wpow_big (by omega)
  have hcw3 : c3 < wpow 39 := wpow_big (by omega)
  have hcc : c2 * c3 < 10 ^ 38 := mul_lt38 hc2 hc3
  have hccw : c2 * c3 < wpow 39 := Nat.lt_trans hcc (wpow_ten (by omega))
  have hp38 : ∀ k, k ≤ 38 → 10 ^ k ≤ 10 ^ 38 := fun k hk => Nat.pow_le_pow_right (by omega) hk
  have hAw : A < wpow 39 := by
    have h1 : A ≤ 9999999999999999999 * 10 ^ 38 := by rw [hA]; exact Nat.mul_le_mul hc1 (hp38 _ (by omega))
    exact Nat.lt_of_le_of_lt h1 (Nat.lt_trans (by decide) (wpow_ten (n := 60) (by omega)))
  have hBw : B < wpow 39 := by
    have h1 : B ≤ 10 ^ 38 * 10 ^ 19 := by rw [hB]; exact Nat.mul_le_mul (Nat.le_of_lt hcc) (Nat.pow_le_pow_right (by omega) (by omega))
    exact Nat.lt_of_le_of_lt h1 (Nat.lt_trans (by decide) (wpow_ten (n := 60) (by omega)))
  have hTI : (s2 : Int) + (s3 : Int) = (T : Int) := by omega
  have hTw : IntKind.i64.wrap (T : Int) = (T : Int) := wrap_nat T (by omega)
  have hT38 : T ≤ 38 := by omega
  clear hp38
  obtain ⟨cc, hcce⟩ : ∃ cc, cc = c2 * c3 := ⟨_, rfl⟩
  rw [← hcce] at hB hcc hccw
  obtain ⟨g, hg⟩ : ∃ g, g = w.heap.size := ⟨_, rfl⟩
  have hsz0 : NG ≤ w.heap.size := hG.size
  have bx := boxes4 w #[.bool m1, .int .i8 s1, .int .u64 c1] #[.bool m2, .int .i8 s2, .int .u64 c2] #[.bool m3, .int .i8 s3, .int .u64 c3] #[.bool false, .int .i8 0, .int .u64 0] 50 50 50 50 g hg
  rw [← hg] at hnb
  have H_bx := Lib.hid bx; clear bx
  have H_hsz0 := Lib.hid hsz0; clear hsz0
  have H_hG := Lib.hid hG; clear hG
  have H_hP := Lib.hid hP; clear hP
  have H_hnb := Lib.hid hnb; clear hnb
  have H_hcw1 := Lib.hid hcw1; clear hcw1
  have H_hcw2 := Lib.hid hcw2; clear hcw2
  have H_hcw3 := Lib.hid hcw3; clear hcw3
  have H_hccw := Lib.hid hccw; clear hccw
  have H_hcc := Lib.hid hcc; clear hcc
  have H_hAw := Lib.hid hAw; clear hAw
  have H_hBw := Lib.hid hBw; clear hBw
  have H_hA := Lib.hid hA; clear hA
  have H_hB := Lib.hid hB; clear hB
  have H_hS := Lib.hid hS; clear hS
  have H_hT := Lib.hid hT; clear hT
  have H_hM := Lib.hid hM; clear hM
  have H_hs1 := Lib.hid hs1; clear hs1
  have H_hs2 := Lib.hid hs2; clear hs2
  have H_hs3 := Lib.hid hs3; clear hs3
  have H_hc1 := Lib.hid hc1; clear hc1
  have H_hc2 := Lib.hid hc2; clear hc2
  have H_hc3 := Lib.hid hc3; clear hc3
  have H_hcce := Lib.hid hcce; clear hcce
  have H_hT38 := Lib.hid hT38; clear hT38
  go_enter_defers Tryz.func110, Tryz.ntmps110
  go_wp2_with (fail)
  generalize hw1 : (((w.alloc _).alloc _).alloc _).alloc _ = w1
  rw [← hg]
  obtain ⟨r1, r2, r3, r4, fa⟩ := H_bx.out w1 hw1
  have sz1 : w1.heap.size = g + 4 := by rw [← hw1, hg]; simp
  have hb1 := getBint_any w1 (by have := H_hsz0.out; omega)
  rw [sz1] at hb1
  have H_r1 := Lib.hid r1; clear r1
  have H_r2 := Lib.hid r2; clear r2
  have H_r3 := Lib.hid r3; clear r3
  have H_r4 := Lib.hid r4; clear r4
  have H_fa := Lib.hid fa; clear fa
  have H_hw1 := Lib.hid hw1; clear hw1
  have H_hg := Lib.hid hg; clear hg
  have H_hb1 := Lib.hid hb1; clear hb1
  have H_sz1 := Lib.hid sz1; clear sz1
  go_wp2_with (fail)
  refine H_hb1.out.mono ?_
  rintro e w2 ⟨rfl, z2, f2, sz2⟩
  have sz2' : w2.heap.size = g + 5 := by omega
  have hb2 := getBint_any w2 (by have := H_hsz0.out; have := H_hg.out; omega)
  rw [sz2'] at hb2
  have H_z2 := Lib.hid z2; clear z2
  have H_f2 := Lib.hid f2; clear f2
  have H_sz2 := Lib.hid sz2; clear sz2
  have H_sz2' := Lib.hid sz2'; clear sz2'
  have H_hb2 := Lib.hid hb2; clear hb2
  go_wp2_with (fail)
  refine H_hb2.out.mono ?_
  rintro e w3 ⟨rfl, y3, f3, sz3⟩
  have sz3' : w3.heap.size = g + 6 := by omega
  have hb3 := getBint_any w3 (by have := H_hsz0.out; have := H_hg.out; omega)
  rw [sz3'] at hb3
  have H_y3 := Lib.hid y3; clear y3
  have H_f3 := Lib.hid f3; clear f3
  have H_sz3 := Lib.hid sz3; clear sz3
  have H_sz3' := Lib.hid sz3'; clear sz3'
  have H_hb3 := Lib.hid hb3; clear hb3
  go_wp2_with (fail)
  refine H_hb3.out.mono ?_
  rintro e w4 ⟨rfl, q4, f4, sz4⟩
  have ff := fresh_trans (fresh_trans H_f2.out H_f3.out) f4
  have bs : BT w w4 g m1 m2 m3 c1 s1 c2 s2 c3 s3 (.slice none 0 0) (.slice none 0 0) (.slice none 0 0) 0 0 0 := ⟨row_fresh H_r1.out ff, row_fresh H_r2.out ff, row_fresh H_r3.out ff, row_fresh H_r4.out ff, H_z2.out.fresh (fresh_trans H_f3.out f4), H_y3.out.fresh f4, q4, fun k h => by simp [Value.ownBlock] at h, fun k h => by simp [Value.ownBlock] at h, fun k h => by simp [Value.ownBlock] at h, fun k h => by simp [Value.ownBlock] at h, fun k h => by simp [Value.ownBlock] at h, fun k h => by simp [Value.ownBlock] at h, fresh_trans H_fa.out ff, H_hg.out, by omega⟩
  clear H_r1 H_r2 H_r3 H_r4 H_fa H_z2 H_y3 H_f2 H_f3 q4 f4 sz4 ff
  obtain ⟨k0, k1, k2, k3, k4, k5, k6, k7, k8⟩ := bs.cells
  have H_bs := Lib.hid bs; clear bs
  go_wp2_with (fail)
  refine (setFint_any (g + 4) _ 0 c1 _ (by have := H_hc1.out; omega) H_bs.out.z).mono ?_
  rintro e w5 ⟨rfl, hbs⟩
  obtain ⟨x5, bs⟩ := H_bs.out.setP hbs
  clear H_bs hbs
  clear k0 k1 k2 k3 k4 k5 k6 k7 k8
  obtain ⟨k0, k1, k2, k3, k4, k5, k6, k7, k8⟩ := bs.cells
  have H_bs := Lib.hid bs; clear bs
  go_wp2_with (fail)
  refine (Scale_any m1 s1 c1 _ H_hs1.out).mono ?_
  rintro e w6 ⟨rfl, f9⟩
  have bs := H_bs.out.fresh f9
  clear H_bs f9
  clear k0 k1 k2 k3 k4 k5 k6 k7 k8
  obtain ⟨k0, k1, k2, k3, k4, k5, k6, k7, k8⟩ := bs.cells
  have H_bs := Lib.hid bs; clear bs
  go_wp2_with (fail)
  refine (IsNeg_any m1 s1 c1 _).mono ?_
  rintro e w7 ⟨rfl, f9⟩
  have bs := H_bs.out.fresh f9
  clear H_bs f9
  clear k0 k1 k2 k3 k4 k5 k6 k7 k8
  obtain ⟨k0, k1, k2, k3, k4, k5, k6, k7, k8⟩ := bs.cells
  have H_bs := Lib.hid bs; clear bs
  go_wp2_with (fail)
  refine (setFint_any (g + 5) _ 0 c2 _ (by have := H_hc2.out; omega) H_bs.out.y).mono ?_
  rintro e w8 ⟨rfl, hbs⟩
  obtain ⟨x8, bs⟩ := H_bs.out.setQ hbs
  clear H_bs hbs
  clear k0 k1 k2 k3 k4 k5 k6 k7 k8
  obtain ⟨k0, k1, k2, k3, k4, k5, k6, k7, k8⟩ := bs.cells
  have H_bs := Lib.hid bs; clear bs
  go_wp2_with (fail)
  refine (Scale_any m2 s2 c2 _ H_hs2.out).mono ?_
  rintro e w9 ⟨rfl, f9⟩
  have bs := H_bs.out.fresh f9
  clear H_bs f9
  clear k0 k1 k2 k3 k4 k5 k6 k7 k8
  obtain ⟨k0, k1, k2, k3, k4, k5, k6, k7, k8⟩ := bs.cells
  have H_bs := Lib.hid bs; clear bs
  go_wp2_with (fail)
  refine (IsNeg_any m2 s2 c2 _).mono ?_
  rintro e w10 ⟨rfl, f9⟩
  have bs := H_bs.out.fresh f9
  clear H_bs f9
  clear k0 k1 k2 k3 k4 k5 k6 k7 k8
  obtain ⟨k0, k1, k2, k3, k4, k5, k6, k7, k8⟩ := bs.cells
  have H_bs := Lib.hid bs; clear bs
  go_wp2_with (fail)
  refine (setFint_any (g + 6) _ 0 c3 _ (by have := H_hc3.out; omega) H_bs.out.x).mono ?_
  rintro e w11 ⟨rfl, hbs⟩
  obtain ⟨x11, bs⟩ := H_bs.out.setR hbs
  clear H_bs hbs
  clear k0 k1 k2 k3 k4 k5 k6 k7 k8
  obtain ⟨k0, k1, k2, k3, k4, k5, k6, k7, k8⟩ := bs.cells
  have H_bs := Lib.hid bs; clear bs
  go_wp2_with (fail)
  refine (mul_self (g + 5) (g + 6) _ _ c2 c3 _ (H_hG.out.fresh H_bs.out.f) H_hcw2.out H_hcw3.out (by omega) H_bs.out.y H_bs.out.x (.inr H_bs.out.oq)).mono ?_
  rintro e w12 ⟨rfl, hbs⟩
  obtain ⟨x12, bs⟩ := H_bs.out.setQ hbs
  clear H_bs hbs
  clear k0 k1 k2 k3 k4 k5 k6 k7 k8
  obtain ⟨k0, k1, k2, k3, k4, k5, k6, k7, k8⟩ := bs.cells
  have H_bs := Lib.hid bs; clear bs
  rw [← H_hcce.out] at H_bs
  go_wp2_with (fail)
  refine (Scale_any m3 s3 c3 _ H_hs3.out).mono ?_
  rintro e w13 ⟨rfl, f9⟩
  have bs := H_bs.out.fresh f9
  clear H_bs f9
  clear k0 k1 k2 k3 k4 k5 k6 k7 k8
  obtain ⟨k0, k1, k2, k3, k4, k5, k6, k7, k8⟩ := bs.cells
  have H_bs := Lib.hid bs; clear bs
  go_wp2_with (fail)
  refine (IsNeg_any m3 s3 c3 _).mono ?_
  rintro e w14 ⟨rfl, f9⟩
  have bs := H_bs.out.fresh f9
  clear H_bs f9
  clear k0 k1 k2 k3 k4 k5 k6 k7 k8
  obtain ⟨k0, k1, k2, k3, k4, k5, k6, k7, k8⟩ := bs.cells
  have H_bs := Lib.hid bs; clear bs
  go_upto_block 0 with (fail)
  rw [show (!(m2 == m3)) = M from H_hM.out.symm]
  go_cut [13] from 55 (fun s13 wx => ∃ v u t, s13 = .int .i64 S ∧ Hid (BT w wx g m1 m2 m3 c1 s1 c2 s2 c3 s3 v u t A B c3))
  case first =>
    rcases Nat.lt_trichotomy s1 T with hsc | hsc | hsc
    · have t1 : decide ((T : Int) < (s1 : Int)) = false := by simp; omega
      have t1n : ¬ T < s1 := by omega
      have t2 : decide ((s1 : Int) < (T : Int)) = true := by simp; omega
      have hSe : S = T := by have := H_hS.out; omega
      obtain ⟨k, hk⟩ : ∃ k, k = T - s1 := ⟨_, rfl⟩
      have hkI : (T : Int) - (s1 : Int) = (k : Int) := by omega
      have hkw : IntKind.i64.wrap (k : Int) = (k : Int) := wrap_nat k (by have := H_hT38.out; omega)
      have hk60 : k ≤ 60 := by have := H_hT38.out; omega
      have hBe : B = cc := by rw [H_hB.out, hSe, Nat.sub_self, Nat.pow_zero, Nat.mul_one]
      have hAe : c1 * 10 ^ k = A := by rw [H_hA.out, hSe, hk]
      subst hSe
      subst hBe
      have H_hk := Lib.hid hk; clear hk
      have H_hAe := Lib.hid hAe; clear hAe
      go_wp2_with (fail)
      refine (Scale_any m1 s1 c1 _ H_hs1.out).mono ?_
      rintro e w15 ⟨rfl, f9⟩
      have bs := H_bs.out.fresh f9
      clear H_bs f9
      clear k0 k1 k2 k3 k4 k5 k6 k7 k8
      obtain ⟨k0, k1, k2, k3, k4, k5, k6, k7, k8⟩ := bs.cells
      have H_bs := Lib.hid bs; clear bs
      go_wp2_with (fail)
      refine (lsh_far (g + 4) _ c1 k _ (H_hG.out.fresh H_bs.out.f) (H_hP.out.fresh H_bs.out.f) H_hcw1.out hk60 H_bs.out.z).mono ?_
      rintro e w16 ⟨rfl, hbs⟩
      obtain ⟨x16, bs⟩ := H_bs.out.setP hbs
      clear H_bs hbs
      clear k0 k1 k2 k3 k4 k5 k6 k7 k8
      obtain ⟨k0, k1, k2, k3, k4, k5, k6, k7, k8⟩ := bs.cells
      have H_bs := Lib.hid bs; clear bs
      rw [H_hAe.out] at H_bs
      go_wp2_with (fail)
      go_meet
      case rel => exact ⟨_, _, _, rfl, H_bs⟩
    · have t1 : decide ((T : Int) < (s1 : Int)) = false := by simp; omega
      have t1n : ¬ T < s1 := by omega
      have t2 : decide ((s1 : Int) < (T : Int)) = false := by simp; omega
      have t2n : ¬ s1 < T := by omega
      have hSe : S = s1 := by have := H_hS.out; omega
      have hAe : A = c1 := by rw [H_hA.out, hSe, Nat.sub_self, Nat.pow_zero, Nat.mul_one]
      have hBe : B = cc := by rw [H_hB.out, hSe, hsc, Nat.sub_self, Nat.pow_zero, Nat.mul_one]
      subst hSe
      subst hAe
      subst hBe
      have H_hsc := Lib.hid hsc; clear hsc
      go_wp2_with (fail)
      go_meet
      case rel => exact ⟨_, _, _, by rw [H_hsc.out], H_bs⟩
    · have t1 : decide ((T : Int) < (s1 : Int)) = true := by simp; omega
      have hSe : S = s1 := by have := H_hS.out; omega
      obtain ⟨k, hk⟩ : ∃ k, k = s1 - T := ⟨_, rfl⟩
      have hkI : (s1 : Int) - (T : Int) = (k : Int) := by omega
      have hkw : IntKind.i64.wrap (k : Int) = (k : Int) := wrap_nat k (by have := H_hs1.out; omega)
      have hk60 : k ≤ 60 := by have := H_hs1.out; omega
      have hAe : A = c1 := by rw [H_hA.out, hSe, Nat.sub_self, Nat.pow_zero, Nat.mul_one]
      have hBe : cc * 10 ^ k = B := by rw [H_hB.out, hSe, hk]
      subst hSe
      subst hAe
      have H_hk := Lib.hid hk; clear hk
      have H_hsc := Lib.hid hsc; clear hsc
      have H_hBe := Lib.hid hBe; clear hBe
      go_wp2_with (fail)
      refine (lsh_far (g + 5) _ cc k _ (H_hG.out.fresh H_bs.out.f) (H_hP.out.fresh H_bs.out.f) H_hccw.out hk60 H_bs.out.y).mono ?_
      rintro e w15 ⟨rfl, hbs⟩
      obtain ⟨x15, bs⟩ := H_bs.out.setQ hbs
      clear H_bs hbs
      clear k0 k1 k2 k3 k4 k5 k6 k7 k8
      obtain ⟨k0, k1, k2, k3, k4, k5, k6, k7, k8⟩ := bs.cells
      have H_bs := Lib.hid bs; clear bs
      rw [H_hBe.out] at H_bs
      go_wp2_with (fail)
      go_meet
      case rel => exact ⟨_, _, _, rfl, H_bs⟩
  case rest =>
    obtain ⟨v, u, t, rfl, hbs⟩ := hcut
    clear H_bs k0 k1 k2 k3 k4 k5 k6 k7 k8
    have bs := hbs.out
    obtain ⟨k0, k1, k2, k3, k4, k5, k6, k7, k8⟩ := bs.cells
    clear hbs
    have H_bs := Lib.hid bs; clear bs
    go_upto_if 79 with (fail)
    go_cut [14] from 79 (fun s14 wx => ∃ v u t, s14 = .bool (sumS m1 M A B) ∧ Hid (BT w wx g m1 m2 m3 c1 s1 c2 s2 c3 s3 v u t (sumC m1 M A B) B c3))
    case first =>
      by_cases hsg : m1 = M
      · have t4 : (m1 == M) = true := by simp [hsg]
        rw [t4]
        have hs0 : sumS m1 M A B = m1 := by unfold sumS; rw [if_pos hsg]
        have hq0 : sumC m1 M A B = A + B := by unfold sumC; rw [if_pos hsg]
        have H_hsg := Lib.hid hsg; clear hsg
        have H_hs0 := Lib.hid hs0; clear hs0
        have H_hq0 := Lib.hid hq0; clear hq0
        go_wp2_with (fail)
        refine (badd_any (g + 4) (g + 4) (g + 5) _ _ _ A A B _ H_hAw.out H_hBw.out H_bs.out.z H_bs.out.z H_bs.out.y (.inl rfl) (.inr H_bs.out.od)).mono ?_
        rintro e w21 ⟨rfl, hbs⟩
        obtain ⟨x21, bs⟩ := H_bs.out.setP hbs
        clear H_bs hbs
        clear k0 k1 k2 k3 k4 k5 k6 k7 k8
        obtain ⟨k0, k1, k2, k3, k4, k5, k6, k7, k8⟩ := bs.cells
        have H_bs := Lib.hid bs; clear bs
        go_wp2_with (fail)
        go_meet
        case rel => exact ⟨_, _, _, by rw [H_hs0.out], by rw [H_hq0.out]; exact H_bs⟩
      · have t4 : (m1 == M) = false := by simpa using hsg
        rw [t4]
        have hq0 : sumC m1 M A B = adf A B := by unfold sumC; rw [if_neg hsg]
        have t6 : (if B ≤ A then A - B else B - A) = adf A B := by unfold adf; split <;> split <;> omega
        by_cases hl : A < B
        · have hs0 : sumS m1 M A B = M := sumS_less hsg hl
          have hcmp := bcmp_any (g + 5) (g + 4) u v B A wc H_hBw.out H_hAw.out (by omega) H_bs.out.y H_bs.out.z
          rw [show cmpN B A = 1 by unfold cmpN; rw [if_neg (by omega), if_pos hl]] at hcmp
          have H_hsg := Lib.hid hsg; clear hsg
          have H_hs0 := Lib.hid hs0; clear hs0
          have H_hl := Lib.hid hl; clear hl
          have H_hcmp := Lib.hid hcmp; clear hcmp
          have H_t6 := Lib.hid t6; clear t6
          go_wp2_with (fail)
          refine (H_hcmp.out).mono ?_
          rintro e w21 ⟨rfl, qn, rfl⟩
          have bs := H_bs.out.drewN qn
          clear H_bs
          clear k0 k1 k2 k3 k4 k5 k6 k7 k8
          obtain ⟨k0, k1, k2, k3, k4, k5, k6, k7, k8⟩ := bs.cells
          have H_bs := Lib.hid bs; clear bs
          have hsub := subAbs_any (g + 4) (g + 5) A B _ _ _ H_hAw.out H_hBw.out (by omega) H_bs.out.z H_bs.out.y (.inr H_bs.out.od)
          rw [H_t6.out] at hsub
          have H_hsub := Lib.hid hsub; clear hsub
          go_wp2_with (fail)
          refine (H_hsub.out).mono ?_
          rintro e w22 ⟨rfl, hbs⟩
          obtain ⟨x22, bs⟩ := H_bs.out.setP hbs
          clear H_bs hbs
          clear k0 k1 k2 k3 k4 k5 k6 k7 k8
          obtain ⟨k0, k1, k2, k3, k4, k5, k6, k7, k8⟩ := bs.cells
          have H_bs := Lib.hid bs; clear bs
          go_wp2_with (fail)
          go_meet
          case rel => exact ⟨_, _, _, by rw [H_hs0.out], by rw [hq0]; exact H_bs⟩
        · have hs0 : sumS m1 M A B = m1 := sumS_more hsg hl
          have hcmp := bcmp_any (g + 5) (g + 4) u v B A wc H_hBw.out H_hAw.out (by omega) H_bs.out.y H_bs.out.z
          have t5 : decide (0 < cmpN B A) = false := cmpN_not hl
          generalize cmpN B A = cq at *
          have H_hsg := Lib.hid hsg; clear hsg
          have H_hs0 := Lib.hid hs0; clear hs0
          have H_hl := Lib.hid hl; clear hl
          have H_hcmp := Lib.hid hcmp; clear hcmp
          have H_t6 := Lib.hid t6; clear t6
          go_wp2_with (fail)
          refine (H_hcmp.out).mono ?_
          rintro e w21 ⟨rfl, qn, rfl⟩
          have bs := H_bs.out.drewN qn
          clear H_bs
          clear k0 k1 k2 k3 k4 k5 k6 k7 k8
          obtain ⟨k0, k1, k2, k3, k4, k5, k6, k7, k8⟩ := bs.cells
          have H_bs := Lib.hid bs; clear bs
          have hsub := subAbs_any (g + 4) (g + 5) A B _ _ _ H_hAw.out H_hBw.out (by omega) H_bs.out.z H_bs.out.y (.inr H_bs.out.od)
          rw [H_t6.out] at hsub
          have H_hsub := Lib.hid hsub; clear hsub
          go_wp2_with (fail)
          refine (H_hsub.out).mono ?_
          rintro e w22 ⟨rfl, hbs⟩
          obtain ⟨x22, bs⟩ := H_bs.out.setP hbs
          clear H_bs hbs
          clear k0 k1 k2 k3 k4 k5 k6 k7 k8
          obtain ⟨k0, k1, k2, k3, k4, k5, k6, k7, k8⟩ := bs.cells
          have H_bs := Lib.hid bs; clear bs
          go_wp2_with (fail)
          go_meet
          case rel => exact ⟨_, _, _, by rw [H_hs0.out], by rw [hq0]; exact H_bs⟩
    case rest =>
      obtain ⟨v1, u1, t1, rfl, hbs⟩ := hcut
      clear H_bs k0 k1 k2 k3 k4 k5 k6 k7 k8
      have bs := hbs.out
      generalize sumS m1 M A B = sg at *
      generalize sumC m1 M A B = sc at *
      clear hbs
      have H_bs := Lib.hid bs; clear bs
      go_wp2_with (fail)
      refine (H_hnb.out _ _ H_bs.out.f (fun k h => H_bs.out.ov k h) H_bs.out.z).mono ?_
      rintro e w9 ⟨ev, rfl, hev, k9⟩
      have r4 := row_keep H_bs.out.r4 k9 (fun hh => hh.elim (fun h => by omega) (fun h => by have := H_bs.out.ov _ h; omega))
      have fa : Fresh w w9 := H_bs.out.f.trans k9 (fun _ _ h => h) (fun k hk hh => by
        have := H_bs.out.hg
        rcases hh with rfl | hh
        · omega
        · have := H_bs.out.ov k hh; omega)
      have p0 := row_cell r4 0
      have p1 := row_cell r4 1
      have p2 := row_cell r4 2
      simp at p0 p1 p2
      have z0 : w9.frozen? ⟨g + 1 + 1 + 1, 0, none⟩ = false := frozen_of_row _ _ _ _ _ r4
      have z1 : w9.frozen? ⟨g + 1 + 1 + 1, 1, none⟩ = false := frozen_of_row _ _ _ _ _ r4
      have z2 : w9.frozen? ⟨g + 1 + 1 + 1, 2, none⟩ = false := frozen_of_row _ _ _ _ _ r4
      clear k9
      have H_r4 := Lib.hid r4; clear r4
      have H_fa := Lib.hid fa; clear fa
      have H_hev := Lib.hid hev; clear hev
      go_wp2_with (fail)
      refine leaves_cons (f := 102) (args := #[.pointer (some ⟨g + 6, 0, none⟩)]) (by simp) (by simp [go_sem]) ?_
      refine (putBint_idle _ _).mono ?_
      rintro e u' w'' ⟨rfl, rfl, rfl⟩
      refine leaves_cons (f := 102) (args := #[.pointer (some ⟨g + 5, 0, none⟩)]) (by first | (intro h; cases h; done) | simp [settle]) (by simp [go_sem]) ?_
      refine (putBint_idle _ _).mono ?_
      rintro e u2 wf ⟨rfl, rfl, rfl⟩
      refine leaves_cons (f := 102) (args := #[.pointer (some ⟨g + 4, 0, none⟩)]) (by first | (intro h; cases h; done) | simp [settle]) (by simp [go_sem]) ?_
      refine (putBint_idle _ _).mono ?_
      rintro e u3 wf2 ⟨rfl, rfl, rfl⟩
      refine ⟨_, results_cell_tmp_row rfl _ _ (g + 1 + 1 + 1) 50 #[.bool nz, .int .i8 sz, .int .u64 cz] (0, 0) _ rfl (row_set (row_set (row_set H_r4.out))) Tryz.underlying50 rfl (by kernel_rfl), ?_⟩
      exact ⟨ev, rfl, H_hev.out, Fresh.set3 H_fa.out (by have := H_hg.out; omega)⟩

end Go.Proofs.YtjdfapoomjeabaaGreatDoor
