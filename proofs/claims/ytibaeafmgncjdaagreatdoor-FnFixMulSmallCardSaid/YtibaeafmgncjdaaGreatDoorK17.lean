/- The plain law of sums and products of two decimals: sign, coefficient, scale. -/
import Derived.Test.YtibaeafmgncjdaaGreatDoorK12
import Derived.Test.YtibaeafmgncjdaaGreatDoorK15
import Derived.Test.YtibaeafmgncjdaaGreatDoorK16
namespace Go.Proofs.YtibaeafmgncjdaaGreatDoor
open Go.RowKit

theorem good_zero {d c s : Nat} (hd : 0 < d) (h : Good 0 d c s) : c = 0 := by
  obtain ⟨_, _, h | ⟨_, h⟩⟩ := h
  · rw [Nat.zero_mul] at h
    rcases Nat.mul_eq_zero.1 h with h | h
    · exact h
    · omega
  · rw [h, Nat.zero_mul]
    exact rhe_exact hd (by rw [Nat.zero_mul])

theorem out_sign {z : Int} {neg : Bool} {c : Nat} (h1 : z < 0 → neg = true) (h2 : 0 < z → neg = false) (h3 : z = 0 → c = 0) : zfix (neg && decide (0 < c)) c = sgnN z c := by
  rw [zfix_canon]
  unfold zfix sgnN
  rcases Int.lt_trichotomy z 0 with h | h | h
  · rw [h1 h, if_pos rfl, if_pos h]
  · rw [h3 h]; cases neg <;> simp
  · rw [h2 h, if_neg (by simp), if_neg (by omega)]

/-- the coefficient of a sum of two amounts with signs -/
def sumC (m1 m2 : Bool) (a e : Nat) : Nat := if m1 = m2 then a + e else adf a e

/-- its sign -/
def sumS (m1 m2 : Bool) (a e : Nat) : Bool := if m1 = m2 then m1 else if a < e then m2 else m1

theorem add_abs (m1 m2 : Bool) (a e : Nat) : (zfix m1 a + zfix m2 e).natAbs = sumC m1 m2 a e := by
  unfold zfix sumC adf
  cases m1 <;> cases m2 <;> simp <;> (try split) <;> omega

theorem add_neg (m1 m2 : Bool) (a e : Nat) : (zfix m1 a + zfix m2 e < 0 → sumS m1 m2 a e = true) ∧ (0 < zfix m1 a + zfix m2 e → sumS m1 m2 a e = false) := by
  cases m1 <;> cases m2
  · have h1 : sumS false false a e = false := rfl
    have h2 : zfix false a = (a : Int) := rfl
    have h3 : zfix false e = (e : Int) := rfl
    rw [h1, h2, h3]
    exact ⟨fun h => by omega, fun _ => rfl⟩
  · have h1 : sumS false true a e = if a < e then true else false := rfl
    have h2 : zfix false a = (a : Int) := rfl
    have h3 : zfix true e = -(e : Int) := rfl
    rw [h1, h2, h3]
    exact ⟨fun h => if_pos (by omega), fun h => if_neg (by omega)⟩
  · have h1 : sumS true false a e = if a < e then false else true := rfl
    have h2 : zfix true a = -(a : Int) := rfl
    have h3 : zfix false e = (e : Int) := rfl
    rw [h1, h2, h3]
    exact ⟨fun h => if_neg (by omega), fun h => if_pos (by omega)⟩
  · have h1 : sumS true true a e = true := rfl
    have h2 : zfix true a = -(a : Int) := rfl
    have h3 : zfix true e = -(e : Int) := rfl
    rw [h1, h2, h3]
    exact ⟨fun _ => rfl, fun h => by omega⟩

theorem add_scaled (m1 m2 : Bool) (c1 s1 c2 s2 : Nat) : zfix m1 c1 * ((10 ^ s2 : Nat) : Int) + zfix m2 c2 * ((10 ^ s1 : Nat) : Int) = (zfix m1 (c1 * 10 ^ (s2 - s1)) + zfix m2 (c2 * 10 ^ (s1 - s2))) * ((10 ^ (min s1 s2) : Nat) : Int) := by
  rw [Int.add_mul, zfix_mul, zfix_mul, zfix_mul, zfix_mul]
  congr 2
  · rw [Nat.mul_assoc, ← Nat.pow_add]; congr 2; omega
  · rw [Nat.mul_assoc, ← Nat.pow_add]; congr 2; omega

theorem add_frac (m1 m2 : Bool) (c1 s1 c2 s2 : Nat) :
    (zfix m1 c1 * ((10 ^ s2 : Nat) : Int) + zfix m2 c2 * ((10 ^ s1 : Nat) : Int)).natAbs * 10 ^ (max s1 s2) = sumC m1 m2 (c1 * 10 ^ (s2 - s1)) (c2 * 10 ^ (s1 - s2)) * (10 ^ s1 * 10 ^ s2) := by
  rw [add_scaled, Int.natAbs_mul, add_abs, Int.natAbs_natCast, Nat.mul_assoc]
  congr 1
  rw [← Nat.pow_add, ← Nat.pow_add]
  congr 1
  omega

theorem add_sign (m1 m2 : Bool) (c1 s1 c2 s2 : Nat) :
    (zfix m1 c1 * ((10 ^ s2 : Nat) : Int) + zfix m2 c2 * ((10 ^ s1 : Nat) : Int) < 0 → sumS m1 m2 (c1 * 10 ^ (s2 - s1)) (c2 * 10 ^ (s1 - s2)) = true) ∧
    (0 < zfix m1 c1 * ((10 ^ s2 : Nat) : Int) + zfix m2 c2 * ((10 ^ s1 : Nat) : Int) → sumS m1 m2 (c1 * 10 ^ (s2 - s1)) (c2 * 10 ^ (s1 - s2)) = false) := by
  have hp : (0 : Int) < ((10 ^ (min s1 s2) : Nat) : Int) := by
    have : 0 < 10 ^ (min s1 s2) := Nat.pow_pos (by omega)
    omega
  rw [add_scaled]
  have h := add_neg m1 m2 (c1 * 10 ^ (s2 - s1)) (c2 * 10 ^ (s1 - s2))
  generalize zfix m1 (c1 * 10 ^ (s2 - s1)) + zfix m2 (c2 * 10 ^ (s1 - s2)) = z at *
  constructor
  · intro k
    refine h.1 ?_
    rcases Int.lt_or_le z 0 with h1 | h1
    · exact h1
    · have := Int.mul_nonneg h1 (Int.le_of_lt hp)
      omega
  · intro k
    refine h.2 ?_
    rcases Int.lt_or_le 0 z with h1 | h1
    · exact h1
    · have := Int.mul_nonneg (show 0 ≤ -z by omega) (Int.le_of_lt hp)
      rw [Int.neg_mul] at this
      omega

theorem mul_frac (m1 m2 : Bool) (c1 s1 c2 s2 : Nat) : (zfix m1 c1 * zfix m2 c2).natAbs * 10 ^ (s1 + s2) = c1 * c2 * (10 ^ s1 * 10 ^ s2) := by
  rw [Int.natAbs_mul, Nat.pow_add]
  have h1 : (zfix m1 c1).natAbs = c1 := by unfold zfix; split <;> simp
  have h2 : (zfix m2 c2).natAbs = c2 := by unfold zfix; split <;> simp
  rw [h1, h2]

theorem mul_sign (m1 m2 : Bool) (c1 c2 : Nat) : (zfix m1 c1 * zfix m2 c2 < 0 → (m1 != m2) = true) ∧ (0 < zfix m1 c1 * zfix m2 c2 → (m1 != m2) = false) := by
  have h : (0 : Int) ≤ (c1 : Int) * (c2 : Int) := Int.mul_nonneg (by omega) (by omega)
  unfold zfix
  cases m1 <;> cases m2 <;> simp only [if_true, Bool.false_eq_true, if_false, Int.neg_mul, Int.mul_neg, Int.neg_neg] <;> constructor <;> intro k <;> first | rfl | (exfalso; omega)

end Go.Proofs.YtibaeafmgncjdaaGreatDoor

/- govalues: newFromFint. -/
namespace Go.Proofs.YtibaeafmgncjdaaGreatDoor
open Go.RowKit

theorem ErrIs.lt {w : World} {a : Addr} (h : w.cell? ⟨0, 0, none⟩ = some (.iface 115 (.pointer (some a)))) : 0 < w.heap.size := World.block_lt_of_cell? _ _ h

set_option maxRecDepth 20000 in
set_option maxHeartbeats 2000000 in
theorem newFromFint_lt (neg : Bool) (C S ms : Nat) (w : World) (hP : Pow10s w) (hC : C ≤ 9999999999999999999) (h1 : S < ms) (h2 : ms ≤ 19) (hfit : C * 10 ^ (ms - S) ≤ 9999999999999999999) :
    Calls Tryz.prog 123 #[.bool neg, .int .u64 C, .int .i64 S, .int .i64 ms] w (VRet w (.tuple #[gd (neg && decide (0 < C * 10 ^ (ms - S))) ms (C * 10 ^ (ms - S)), .nilIface])) := by
  obtain ⟨g, hg⟩ : ∃ g, g = w.heap.size := ⟨_, rfl⟩
  have bx := box1 w #[.bool false, .int .i8 0, .int .u64 0] 62 g hg
  have t1 : decide ((S : Int) < (ms : Int)) = true := by simp; omega
  have hsub : (ms : Int) - (S : Int) = ((ms - S : Nat) : Int) := by omega
  have hlsh := fun W (hW : Fresh w W) => flsh_any C (ms - S) W (hP.fresh hW) hC (by omega)
  obtain ⟨k, hk⟩ : ∃ k, k = ms - S := ⟨_, rfl⟩
  rw [← hk] at hsub hlsh hfit ⊢
  have hkw : IntKind.i64.wrap (k : Int) = (k : Int) := wrap_nat k (by omega)
  obtain ⟨c, hc⟩ : ∃ c, c = C * 10 ^ k := ⟨_, rfl⟩
  rw [← hc] at hlsh hfit ⊢
  have hm : mulTo c = .tuple #[.int .u64 c, .bool true] := by unfold mulTo; rw [if_pos hfit]
  rw [hm] at hlsh
  clear hm hc hk
  have hsafe := fun W => newSafe_any neg ms c W h2 hfit
  have H_bx := Lib.hid bx; clear bx
  have H_hlsh := Lib.hid hlsh; clear hlsh
  have H_hsafe := Lib.hid hsafe; clear hsafe
  have H_hP := Lib.hid hP; clear hP
  go_enter Tryz.func123, Tryz.ntmps123
  go_wp2_with (fail)
  generalize hw1 : w.alloc _ = w1
  rw [← hg]
  obtain ⟨b1, hf⟩ := H_bx.out w1 hw1
  have H_b1 := Lib.hid b1; clear b1
  have H_hf := Lib.hid hf; clear hf
  have H_hw1 := Lib.hid hw1; clear hw1
  have H_hg := Lib.hid hg; clear hg
  go_wp2_with (fail)
  refine (H_hlsh.out _ H_hf.out).mono ?_
  rintro e w2 ⟨rfl, rfl⟩
  go_wp2_with (fail)
  refine (H_hsafe.out _).mono ?_
  rintro e w3 ⟨rfl, f3⟩
  have b1 := row_fresh H_b1.out f3
  have p0 := row_cell b1 0
  have p1 := row_cell b1 1
  have p2 := row_cell b1 2
  simp at p0 p1 p2
  have z0 : w3.frozen? ⟨g, 0, none⟩ = false := frozen_of_row _ _ _ _ _ b1
  have z1 : w3.frozen? ⟨g, 1, none⟩ = false := frozen_of_row _ _ _ _ _ b1
  have z2 : w3.frozen? ⟨g, 2, none⟩ = false := frozen_of_row _ _ _ _ _ b1
  clear H_b1
  obtain ⟨bn, hbn⟩ : ∃ b, b = (neg && decide (0 < c)) := ⟨_, rfl⟩
  rw [← hbn]
  have H_b1 := Lib.hid b1; clear b1
  have H_hbn := Lib.hid hbn; clear hbn
  go_wp2_with (fail)
  refine bodyPost_ret (results_cell_tmp_row rfl _ _ g 62 #[.bool bn, .int .i8 ms, .int .u64 c] (0, 0) _ rfl (row_set (row_set (row_set H_b1.out))) Tryz.underlying62 rfl (by kernel_rfl)) rfl ?_
  exact ⟨by rw [← H_hbn.out]; rfl, Fresh.set3 (fresh_trans H_hf.out f3) (by have := H_hg.out; omega)⟩

set_option maxRecDepth 20000 in
set_option maxHeartbeats 2000000 in
theorem newFromFint_no (neg : Bool) (C S ms : Nat) (w : World) (hP : Pow10s w) (hE : ErrIs w) (hC : C ≤ 9999999999999999999) (h1 : S < ms) (h2 : ms ≤ 19) (hfit : ¬ C * 10 ^ (ms - S) ≤ 9999999999999999999) :
    Calls Tryz.prog 123 #[.bool neg, .int .u64 C, .int .i64 S, .int .i64 ms] w (ClampErr w) := by
  obtain ⟨g, hg⟩ : ∃ g, g = w.heap.size := ⟨_, rfl⟩
  have bx := box1 w #[.bool false, .int .i8 0, .int .u64 0] 62 g hg
  have t1 : decide ((S : Int) < (ms : Int)) = true := by simp; omega
  have hsub : (ms : Int) - (S : Int) = ((ms - S : Nat) : Int) := by omega
  have hlsh := fun W (hW : Fresh w W) => flsh_any C (ms - S) W (hP.fresh hW) hC (by omega)
  obtain ⟨k, hk⟩ : ∃ k, k = ms - S := ⟨_, rfl⟩
  rw [← hk] at hsub hlsh hfit
  have hkw : IntKind.i64.wrap (k : Int) = (k : Int) := wrap_nat k (by omega)
  obtain ⟨c, hc⟩ : ∃ c, c = C * 10 ^ k := ⟨_, rfl⟩
  rw [← hc] at hlsh hfit
  have hm : mulTo c = .tuple #[.int .u64 0, .bool false] := by unfold mulTo; rw [if_neg hfit]
  rw [hm] at hlsh
  clear hm hc hk
  clear hfit
  have H_bx := Lib.hid bx; clear bx
  have H_hlsh := Lib.hid hlsh; clear hlsh
  have H_hP := Lib.hid hP; clear hP
  have H_hE := Lib.hid hE; clear hE
  go_enter Tryz.func123, Tryz.ntmps123
  go_wp2_with (fail)
  generalize hw1 : w.alloc _ = w1
  rw [← hg]
  obtain ⟨b1, hf⟩ := H_bx.out w1 hw1
  have H_b1 := Lib.hid b1; clear b1
  have H_hf := Lib.hid hf; clear hf
  have H_hw1 := Lib.hid hw1; clear hw1
  have H_hg := Lib.hid hg; clear hg
  go_wp2_with (fail)
  refine (H_hlsh.out _ H_hf.out).mono ?_
  rintro e w2 ⟨rfl, rfl⟩
  obtain ⟨ae, hae⟩ := H_hE.out.fresh H_hf.out
  have hne : 0 ≠ g := by
    obtain ⟨_, h0⟩ := H_hE.out
    have := ErrIs.lt h0
    have := H_hg.out
    omega
  have p0 := row_cell H_b1.out 0
  have p1 := row_cell H_b1.out 1
  have p2 := row_cell H_b1.out 2
  simp at p0 p1 p2
  have z0 : w2.frozen? ⟨g, 0, none⟩ = false := frozen_of_row _ _ _ _ _ H_b1.out
  have z1 : w2.frozen? ⟨g, 1, none⟩ = false := frozen_of_row _ _ _ _ _ H_b1.out
  have z2 : w2.frozen? ⟨g, 2, none⟩ = false := frozen_of_row _ _ _ _ _ H_b1.out
  go_wp2_with (fail)
  go_region_held3 (fun (w' : World) => w'.cell? ⟨0, 0, none⟩ = some (.iface 115 (.pointer (some ae)))) (first | exact hae | exact far3 hne hae) (fail)
  go_wp2
  refine bodyPost_ret (results_cell_tmp_row rfl _ _ g 62 #[.bool false, .int .i8 0, .int .u64 0] (0, 0) _ rfl (row_set (row_set (row_set H_b1.out))) Tryz.underlying62 rfl (by kernel_rfl)) rfl ?_
  exact ⟨ae, rfl, Fresh.set3 (H_hf.out.drewN 1) (by have := H_hg.out; omega)⟩

set_option maxRecDepth 20000 in
set_option maxHeartbeats 2000000 in
theorem newFromFint_gt (neg : Bool) (C S ms : Nat) (w : World) (hP : Pow10s w) (hC : C ≤ 9999999999999999999) (h1 : ms ≤ S) (h2 : 19 < S) (hS : S ≤ 38) :
    Calls Tryz.prog 123 #[.bool neg, .int .u64 C, .int .i64 S, .int .i64 ms] w (VRet w (.tuple #[gd (neg && decide (0 < rhe C (10 ^ (S - 19)))) 19 (rhe C (10 ^ (S - 19))), .nilIface])) := by
  obtain ⟨g, hg⟩ : ∃ g, g = w.heap.size := ⟨_, rfl⟩
  have bx := box1 w #[.bool false, .int .i8 0, .int .u64 0] 62 g hg
  have t1 : decide ((S : Int) < (ms : Int)) = false := by simp; omega
  have t1n : ¬ S < ms := by omega
  have t2 : decide (19 < (S : Int)) = true := by simp; omega
  have hsub : (S : Int) - 19 = ((S - 19 : Nat) : Int) := by omega
  have hrsh := fun W (hW : Fresh w W) => frsh_any C (S - 19) W (hP.fresh hW) hC (by omega)
  have hcle : rhe C (10 ^ (S - 19)) ≤ 9999999999999999999 := by
    rcases Nat.eq_zero_or_pos (S - 19) with h | h
    · omega
    · have h5 : 10 ^ 1 ≤ 10 ^ (S - 19) := Nat.pow_le_pow_right (by omega) h
      have h6 := rhe_le C (10 ^ (S - 19))
      have h7 : C / 10 ^ (S - 19) ≤ C / 10 ^ 1 := Nat.div_le_div_left h5 (by decide)
      omega
  obtain ⟨k, hk⟩ : ∃ k, k = S - 19 := ⟨_, rfl⟩
  rw [← hk] at hsub hrsh hcle ⊢
  have hkw : IntKind.i64.wrap (k : Int) = (k : Int) := wrap_nat k (by omega)
  obtain ⟨c, hc⟩ : ∃ c, c = rhe C (10 ^ k) := ⟨_, rfl⟩
  rw [← hc] at hrsh hcle ⊢
  clear hc hk
  have hsafe := fun W => newSafe_any neg 19 c W (by omega) hcle
  have H_bx := Lib.hid bx; clear bx
  have H_hrsh := Lib.hid hrsh; clear hrsh
  have H_hsafe := Lib.hid hsafe; clear hsafe
  have H_hP := Lib.hid hP; clear hP
  go_enter Tryz.func123, Tryz.ntmps123
  go_wp2_with (fail)
  generalize hw1 : w.alloc _ = w1
  rw [← hg]
  obtain ⟨b1, hf⟩ := H_bx.out w1 hw1
  have H_b1 := Lib.hid b1; clear b1
  have H_hf := Lib.hid hf; clear hf
  have H_hw1 := Lib.hid hw1; clear hw1
  have H_hg := Lib.hid hg; clear hg
  go_wp2_with (fail)
  refine (H_hrsh.out _ H_hf.out).mono ?_
  rintro e w2 ⟨rfl, rfl⟩
  go_wp2_with (fail)
  refine (H_hsafe.out _).mono ?_
  rintro e w3 ⟨rfl, f3⟩
  have b1 := row_fresh H_b1.out f3
  have p0 := row_cell b1 0
  have p1 := row_cell b1 1
  have p2 := row_cell b1 2
  simp at p0 p1 p2
  have z0 : w3.frozen? ⟨g, 0, none⟩ = false := frozen_of_row _ _ _ _ _ b1
  have z1 : w3.frozen? ⟨g, 1, none⟩ = false := frozen_of_row _ _ _ _ _ b1
  have z2 : w3.frozen? ⟨g, 2, none⟩ = false := frozen_of_row _ _ _ _ _ b1
  clear H_b1
  obtain ⟨bn, hbn⟩ : ∃ b, b = (neg && decide (0 < c)) := ⟨_, rfl⟩
  rw [← hbn]
  have H_b1 := Lib.hid b1; clear b1
  have H_hbn := Lib.hid hbn; clear hbn
  go_wp2_with (fail)
  refine bodyPost_ret (results_cell_tmp_row rfl _ _ g 62 #[.bool bn, .int .i8 19, .int .u64 c] (0, 0) _ rfl (row_set (row_set (row_set H_b1.out))) Tryz.underlying62 rfl (by kernel_rfl)) rfl ?_
  exact ⟨by rw [← H_hbn.out]; rfl, Fresh.set3 (fresh_trans H_hf.out f3) (by have := H_hg.out; omega)⟩

set_option maxRecDepth 20000 in
set_option maxHeartbeats 2000000 in
theorem newFromFint_mid (neg : Bool) (C S ms : Nat) (w : World) (hP : Pow10s w) (hC : C ≤ 9999999999999999999) (h1 : ms ≤ S) (h2 : S ≤ 19) :
    Calls Tryz.prog 123 #[.bool neg, .int .u64 C, .int .i64 S, .int .i64 ms] w (VRet w (.tuple #[gd (neg && decide (0 < C)) S (C), .nilIface])) := by
  obtain ⟨g, hg⟩ : ∃ g, g = w.heap.size := ⟨_, rfl⟩
  have bx := box1 w #[.bool false, .int .i8 0, .int .u64 0] 62 g hg
  have t1 : decide ((S : Int) < (ms : Int)) = false := by simp; omega
  have t1n : ¬ S < ms := by omega
  have t2 : decide (19 < (S : Int)) = false := by simp; omega
  have hsafe := fun W => newSafe_any neg S C W h2 hC
  have H_bx := Lib.hid bx; clear bx
  have H_hsafe := Lib.hid hsafe; clear hsafe
  have H_hP := Lib.hid hP; clear hP
  go_enter Tryz.func123, Tryz.ntmps123
  go_wp2_with (fail)
  generalize hw1 : w.alloc _ = w1
  rw [← hg]
  obtain ⟨b1, hf⟩ := H_bx.out w1 hw1
  have H_b1 := Lib.hid b1; clear b1
  have H_hf := Lib.hid hf; clear hf
  have H_hw1 := Lib.hid hw1; clear hw1
  have H_hg := Lib.hid hg; clear hg
  go_wp2_with (fail)
  refine (H_hsafe.out _).mono ?_
  rintro e w3 ⟨rfl, f3⟩
  have b1 := row_fresh H_b1.out f3
  have p0 := row_cell b1 0
  have p1 := row_cell b1 1
  have p2 := row_cell b1 2
  simp at p0 p1 p2
  have z0 : w3.frozen? ⟨g, 0, none⟩ = false := frozen_of_row _ _ _ _ _ b1
  have z1 : w3.frozen? ⟨g, 1, none⟩ = false := frozen_of_row _ _ _ _ _ b1
  have z2 : w3.frozen? ⟨g, 2, none⟩ = false := frozen_of_row _ _ _ _ _ b1
  clear H_b1
  obtain ⟨bn, hbn⟩ : ∃ b, b = (neg && decide (0 < C)) := ⟨_, rfl⟩
  rw [← hbn]
  have H_b1 := Lib.hid b1; clear b1
  have H_hbn := Lib.hid hbn; clear hbn
  go_wp2_with (fail)
  refine bodyPost_ret (results_cell_tmp_row rfl _ _ g 62 #[.bool bn, .int .i8 S, .int .u64 C] (0, 0) _ rfl (row_set (row_set (row_set H_b1.out))) Tryz.underlying62 rfl (by kernel_rfl)) rfl ?_
  exact ⟨by rw [← H_hbn.out]; rfl, Fresh.set3 (fresh_trans H_hf.out f3) (by have := H_hg.out; omega)⟩

end Go.Proofs.YtibaeafmgncjdaaGreatDoor

/- govalues' sums and products by whole numbers of 64 bits: addFint, mulFint. -/
namespace Go.Proofs.YtibaeafmgncjdaaGreatDoor
open Go.RowKit

/-- the call returns a decimal, and an error or none -/
def DOut (w : World) (nz : Bool) (sz cz : Nat) (Pv : Value → Prop) (e : Ending) (w' : World) : Prop := ∃ ev, e = .returned (.tuple #[gd nz sz cz, ev]) ∧ Pv ev ∧ Fresh w w'

def NoErr (v : Value) : Prop := v = .nilIface
def AnErr (v : Value) : Prop := ∃ a : Addr, v = .iface 115 (.pointer (some a))

theorem DOut.of_ok {w w' : World} {nz : Bool} {sz cz : Nat} {e : Ending} (h : VRet w (.tuple #[gd nz sz cz, .nilIface]) e w') : DOut w nz sz cz NoErr e w' := ⟨_, h.1, rfl, h.2⟩
theorem DOut.of_err {w w' : World} {e : Ending} (h : ClampErr w e w') : DOut w false 0 0 AnErr e w' := by
  obtain ⟨a, h1, h2⟩ := h
  exact ⟨_, h1, ⟨a, rfl⟩, h2⟩

theorem fmul_zero (x : Nat) (w : World) : Calls Tryz.prog 124 #[.int .u64 x, .int .u64 (0 : Nat)] w (fun e w' => e = .returned (mulTo (x * 0)) ∧ w' = w) := by
  have hr : mulTo (x * 0) = .tuple #[.int .u64 0, .bool true] := rfl
  rw [hr]
  clear hr
  go_enter Tryz.func124, Tryz.ntmps124
  go_wp2
  go_ret2
  exact ⟨rfl, rfl⟩

set_option maxRecDepth 20000 in
set_option maxHeartbeats 4000000 in
theorem addFint_gt_lshno (m1 m2 : Bool) (c1 s1 c2 s2 : Nat) (w : World) (hP : Pow10s w) (hE : ErrIs w) (ms : Nat) (hs1 : s1 ≤ 19) (hs2 : s2 ≤ 19) (_hc1 : c1 ≤ 9999999999999999999) (hc2 : c2 ≤ 9999999999999999999) (hsc : s2 < s1) (hfit : ¬ c2 * 10 ^ (s1 - s2) ≤ 9999999999999999999) :
    Calls Tryz.prog 102 #[gd m1 s1 c1, gd m2 s2 c2, .int .i64 ms] w (ClampErr w) := by
  have t1 : decide ((s2 : Int) < (s1 : Int)) = true := by simp; omega
  have hlsh := fun W (hW : Fresh w W) => flsh_any c2 (s1 - s2) W (hP.fresh hW) hc2 (by omega)
  obtain ⟨k, hk⟩ : ∃ k, k = s1 - s2 := ⟨_, rfl⟩
  have hkI : (s1 : Int) - (s2 : Int) = (k : Int) := by omega
  have hkw : IntKind.i64.wrap (k : Int) = (k : Int) := wrap_nat k (by omega)
  rw [← hk] at hlsh hfit
  obtain ⟨b, hb⟩ : ∃ b, b = c2 * 10 ^ k := ⟨_, rfl⟩
  rw [← hb] at hlsh hfit
  have hm : mulTo b = .tuple #[.int .u64 0, .bool false] := by unfold mulTo; rw [if_neg hfit]
  rw [hm] at hlsh
  clear hm hb hk
  clear hfit
  obtain ⟨g, hg⟩ : ∃ g, g = w.heap.size := ⟨_, rfl⟩
  have bx := boxes3 w #[.bool m1, .int .i8 s1, .int .u64 c1] #[.bool m2, .int .i8 s2, .int .u64 c2] #[.bool false, .int .i8 0, .int .u64 0] 62 62 62 g hg
  have H_bx := Lib.hid bx; clear bx
  have H_hP := Lib.hid hP; clear hP
  have H_hE := Lib.hid hE; clear hE
  have H_hlsh := Lib.hid hlsh; clear hlsh
  go_enter Tryz.func102, Tryz.ntmps102
  go_wp2_with (fail)
  generalize hw1 : ((w.alloc _).alloc _).alloc _ = w1
  rw [← hg]
  obtain ⟨r1, r2, r3, fa, _⟩ := H_bx.out w1 hw1
  have k0 := row_cell r1 0
  have k1 := row_cell r1 1
  have k2 := row_cell r1 2
  have k3 := row_cell r2 0
  have k4 := row_cell r2 1
  have k5 := row_cell r2 2
  simp at k0 k1 k2 k3 k4 k5
  have H_r1 := Lib.hid r1; clear r1
  have H_r2 := Lib.hid r2; clear r2
  have H_r3 := Lib.hid r3; clear r3
  have H_fa := Lib.hid fa; clear fa
  have H_hw1 := Lib.hid hw1; clear hw1
  have H_hg := Lib.hid hg; clear hg
  go_wp2_with (fail)
  refine (Scale_any m1 s1 c1 _ hs1).mono ?_
  rintro e w2 ⟨rfl, f2⟩
  have r1 := row_fresh H_r1.out f2
  have r2 := row_fresh H_r2.out f2
  have r3 := row_fresh H_r3.out f2
  have fa := fresh_trans H_fa.out f2
  clear H_r1 H_r2 H_r3 H_fa f2
  clear k0 k1 k2 k3 k4 k5
  have k0 := row_cell r1 0
  have k1 := row_cell r1 1
  have k2 := row_cell r1 2
  have k3 := row_cell r2 0
  have k4 := row_cell r2 1
  have k5 := row_cell r2 2
  simp at k0 k1 k2 k3 k4 k5
  have H_r1 := Lib.hid r1; clear r1
  have H_r2 := Lib.hid r2; clear r2
  have H_r3 := Lib.hid r3; clear r3
  have H_fa := Lib.hid fa; clear fa
  go_wp2_with (fail)
  refine (IsNeg_any m1 s1 c1 _).mono ?_
  rintro e w3 ⟨rfl, f3⟩
  have r1 := row_fresh H_r1.out f3
  have r2 := row_fresh H_r2.out f3
  have r3 := row_fresh H_r3.out f3
  have fa := fresh_trans H_fa.out f3
  clear H_r1 H_r2 H_r3 H_fa f3
  clear k0 k1 k2 k3 k4 k5
  have k0 := row_cell r1 0
  have k1 := row_cell r1 1
  have k2 := row_cell r1 2
  have k3 := row_cell r2 0
  have k4 := row_cell r2 1
  have k5 := row_cell r2 2
  simp at k0 k1 k2 k3 k4 k5
  have H_r1 := Lib.hid r1; clear r1
  have H_r2 := Lib.hid r2; clear r2
  have H_r3 := Lib.hid r3; clear r3
  have H_fa := Lib.hid fa; clear fa
  go_wp2_with (fail)
  refine (Scale_any m2 s2 c2 _ hs2).mono ?_
  rintro e w4 ⟨rfl, f4⟩
  have r1 := row_fresh H_r1.out f4
  have r2 := row_fresh H_r2.out f4
  have r3 := row_fresh H_r3.out f4
  have fa := fresh_trans H_fa.out f4
  clear H_r1 H_r2 H_r3 H_fa f4
  clear k0 k1 k2 k3 k4 k5
  have k0 := row_cell r1 0
  have k1 := row_cell r1 1
  have k2 := row_cell r1 2
  have k3 := row_cell r2 0
  have k4 := row_cell r2 1
  have k5 := row_cell r2 2
  simp at k0 k1 k2 k3 k4 k5
  have H_r1 := Lib.hid r1; clear r1
  have H_r2 := Lib.hid r2; clear r2
  have H_r3 := Lib.hid r3; clear r3
  have H_fa := Lib.hid fa; clear fa
  go_wp2_with (fail)
  refine (Scale_any m2 s2 c2 _ hs2).mono ?_
  rintro e w5 ⟨rfl, f5⟩
  have r1 := row_fresh H_r1.out f5
  have r2 := row_fresh H_r2.out f5
  have r3 := row_fresh H_r3.out f5
  have fa := fresh_trans H_fa.out f5
  clear H_r1 H_r2 H_r3 H_fa f5
  clear k0 k1 k2 k3 k4 k5
  have k0 := row_cell r1 0
  have k1 := row_cell r1 1
  have k2 := row_cell r1 2
  have k3 := row_cell r2 0
  have k4 := row_cell r2 1
  have k5 := row_cell r2 2
  simp at k0 k1 k2 k3 k4 k5
  have H_r1 := Lib.hid r1; clear r1
  have H_r2 := Lib.hid r2; clear r2
  have H_r3 := Lib.hid r3; clear r3
  have H_fa := Lib.hid fa; clear fa
  go_wp2_with (fail)
  refine (H_hlsh.out _ H_fa.out).mono ?_
  rintro e w6 ⟨rfl, hs⟩
  subst hs
  go_wp2_with (fail)
  obtain ⟨ae, hae⟩ := H_hE.out.fresh H_fa.out
  have hne : 0 ≠ g + 1 + 1 := by
    obtain ⟨_, h0⟩ := H_hE.out
    have := ErrIs.lt h0
    have := H_hg.out
    omega
  have p0 := row_cell H_r3.out 0
  have p1 := row_cell H_r3.out 1
  have p2 := row_cell H_r3.out 2
  simp at p0 p1 p2
  have z0 : w6.frozen? ⟨g + 1 + 1, 0, none⟩ = false := frozen_of_row _ _ _ _ _ H_r3.out
  have z1 : w6.frozen? ⟨g + 1 + 1, 1, none⟩ = false := frozen_of_row _ _ _ _ _ H_r3.out
  have z2 : w6.frozen? ⟨g + 1 + 1, 2, none⟩ = false := frozen_of_row _ _ _ _ _ H_r3.out
  go_wp2_with (fail)
  go_region_held3 (fun (w' : World) => w'.cell? ⟨0, 0, none⟩ = some (.iface 115 (.pointer (some ae)))) (first | exact hae | exact far3 hne hae) (fail)
  go_wp2
  refine bodyPost_ret (results_cell_tmp_row rfl _ _ (g + 1 + 1) 62 #[.bool false, .int .i8 0, .int .u64 0] (0, 0) _ rfl (row_set (row_set (row_set H_r3.out))) Tryz.underlying62 rfl (by kernel_rfl)) rfl ?_
  exact ⟨ae, rfl, Fresh.set3 (H_fa.out.drewN 1) (by have := H_hg.out; omega)⟩

set_option maxRecDepth 20000 in
set_option maxHeartbeats 4000000 in
theorem addFint_gt_addno (m1 m2 : Bool) (c1 s1 c2 s2 : Nat) (w : World) (hP : Pow10s w) (hE : ErrIs w) (ms : Nat) (hs1 : s1 ≤ 19) (hs2 : s2 ≤ 19) (hc1 : c1 ≤ 9999999999999999999) (hc2 : c2 ≤ 9999999999999999999) (hsc : s2 < s1) (hfit : c2 * 10 ^ (s1 - s2) ≤ 9999999999999999999) (hsg : m1 = m2) (hsum : ¬ c1 + c2 * 10 ^ (s1 - s2) ≤ 9999999999999999999) :
    Calls Tryz.prog 102 #[gd m1 s1 c1, gd m2 s2 c2, .int .i64 ms] w (ClampErr w) := by
  have t1 : decide ((s2 : Int) < (s1 : Int)) = true := by simp; omega
  have hlsh := fun W (hW : Fresh w W) => flsh_any c2 (s1 - s2) W (hP.fresh hW) hc2 (by omega)
  obtain ⟨k, hk⟩ : ∃ k, k = s1 - s2 := ⟨_, rfl⟩
  have hkI : (s1 : Int) - (s2 : Int) = (k : Int) := by omega
  have hkw : IntKind.i64.wrap (k : Int) = (k : Int) := wrap_nat k (by omega)
  rw [← hk] at hlsh hfit hsum
  obtain ⟨b, hb⟩ : ∃ b, b = c2 * 10 ^ k := ⟨_, rfl⟩
  rw [← hb] at hlsh hfit hsum
  have hm : mulTo b = .tuple #[.int .u64 b, .bool true] := by unfold mulTo; rw [if_pos hfit]
  rw [hm] at hlsh
  clear hm hb hk
  subst hsg
  have hadd := fun W => fadd_any c1 b W hc1 hfit
  obtain ⟨q, hq⟩ : ∃ q, q = c1 + b := ⟨_, rfl⟩
  rw [← hq] at hadd hsum
  have hm2 : mulTo q = .tuple #[.int .u64 0, .bool false] := by unfold mulTo; rw [if_neg hsum]
  rw [hm2] at hadd
  clear hm2 hq hsum
  obtain ⟨g, hg⟩ : ∃ g, g = w.heap.size := ⟨_, rfl⟩
  have bx := boxes3 w #[.bool m1, .int .i8 s1, .int .u64 c1] #[.bool m1, .int .i8 s2, .int .u64 c2] #[.bool false, .int .i8 0, .int .u64 0] 62 62 62 g hg
  have H_bx := Lib.hid bx; clear bx
  have H_hP := Lib.hid hP; clear hP
  have H_hE := Lib.hid hE; clear hE
  have H_hlsh := Lib.hid hlsh; clear hlsh
  have H_hadd := Lib.hid hadd; clear hadd
  go_enter Tryz.func102, Tryz.ntmps102
  go_wp2_with (fail)
  generalize hw1 : ((w.alloc _).alloc _).alloc _ = w1
  rw [← hg]
  obtain ⟨r1, r2, r3, fa, _⟩ := H_bx.out w1 hw1
  have k0 := row_cell r1 0
  have k1 := row_cell r1 1
  have k2 := row_cell r1 2
  have k3 := row_cell r2 0
  have k4 := row_cell r2 1
  have k5 := row_cell r2 2
  simp at k0 k1 k2 k3 k4 k5
  have H_r1 := Lib.hid r1; clear r1
  have H_r2 := Lib.hid r2; clear r2
  have H_r3 := Lib.hid r3; clear r3
  have H_fa := Lib.hid fa; clear fa
  have H_hw1 := Lib.hid hw1; clear hw1
  have H_hg := Lib.hid hg; clear hg
  go_wp2_with (fail)
  refine (Scale_any m1 s1 c1 _ hs1).mono ?_
  rintro e w2 ⟨rfl, f2⟩
  have r1 := row_fresh H_r1.out f2
  have r2 := row_fresh H_r2.out f2
  have r3 := row_fresh H_r3.out f2
  have fa := fresh_trans H_fa.out f2
  clear H_r1 H_r2 H_r3 H_fa f2
  clear k0 k1 k2 k3 k4 k5
  have k0 := row_cell r1 0
  have k1 := row_cell r1 1
  have k2 := row_cell r1 2
  have k3 := row_cell r2 0
  have k4 := row_cell r2 1
  have k5 := row_cell r2 2
  simp at k0 k1 k2 k3 k4 k5
  have H_r1 := Lib.hid r1; clear r1
  have H_r2 := Lib.hid r2; clear r2
  have H_r3 := Lib.hid r3; clear r3
  have H_fa := Lib.hid fa; clear fa
  go_wp2_with (fail)
  refine (IsNeg_any m1 s1 c1 _).mono ?_
  rintro e w3 ⟨rfl, f3⟩
  have r1 := row_fresh H_r1.out f3
  have r2 := row_fresh H_r2.out f3
  have r3 := row_fresh H_r3.out f3
  have fa := fresh_trans H_fa.out f3
  clear H_r1 H_r2 H_r3 H_fa f3
  clear k0 k1 k2 k3 k4 k5
  have k0 := row_cell r1 0
  have k1 := row_cell r1 1
  have k2 := row_cell r1 2
  have k3 := row_cell r2 0
  have k4 := row_cell r2 1
  have k5 := row_cell r2 2
  simp at k0 k1 k2 k3 k4 k5
  have H_r1 := Lib.hid r1; clear r1
  have H_r2 := Lib.hid r2; clear r2
  have H_r3 := Lib.hid r3; clear r3
  have H_fa := Lib.hid fa; clear fa
  go_wp2_with (fail)
  refine (Scale_any m1 s2 c2 _ hs2).mono ?_
  rintro e w4 ⟨rfl, f4⟩
  have r1 := row_fresh H_r1.out f4
  have r2 := row_fresh H_r2.out f4
  have r3 := row_fresh H_r3.out f4
  have fa := fresh_trans H_fa.out f4
  clear H_r1 H_r2 H_r3 H_fa f4
  clear k0 k1 k2 k3 k4 k5
  have k0 := row_cell r1 0
  have k1 := row_cell r1 1
  have k2 := row_cell r1 2
  have k3 := row_cell r2 0
  have k4 := row_cell r2 1
  have k5 := row_cell r2 2
  simp at k0 k1 k2 k3 k4 k5
  have H_r1 := Lib.hid r1; clear r1
  have H_r2 := Lib.hid r2; clear r2
  have H_r3 := Lib.hid r3; clear r3
  have H_fa := Lib.hid fa; clear fa
  go_wp2_with (fail)
  refine (Scale_any m1 s2 c2 _ hs2).mono ?_
  rintro e w5 ⟨rfl, f5⟩
  have r1 := row_fresh H_r1.out f5
  have r2 := row_fresh H_r2.out f5
  have r3 := row_fresh H_r3.out f5
  have fa := fresh_trans H_fa.out f5
  clear H_r1 H_r2 H_r3 H_fa f5
  clear k0 k1 k2 k3 k4 k5
  have k0 := row_cell r1 0
  have k1 := row_cell r1 1
  have k2 := row_cell r1 2
  have k3 := row_cell r2 0
  have k4 := row_cell r2 1
  have k5 := row_cell r2 2
  simp at k0 k1 k2 k3 k4 k5
  have H_r1 := Lib.hid r1; clear r1
  have H_r2 := Lib.hid r2; clear r2
  have H_r3 := Lib.hid r3; clear r3
  have H_fa := Lib.hid fa; clear fa
  go_wp2_with (fail)
  refine (H_hlsh.out _ H_fa.out).mono ?_
  rintro e w6 ⟨rfl, hs⟩
  subst hs
  go_wp2_with (fail)
  refine (IsNeg_any m1 s2 c2 _).mono ?_
  rintro e w7 ⟨rfl, f7⟩
  have r1 := row_fresh H_r1.out f7
  have r2 := row_fresh H_r2.out f7
  have r3 := row_fresh H_r3.out f7
  have fa := fresh_trans H_fa.out f7
  clear H_r1 H_r2 H_r3 H_fa f7
  clear k0 k1 k2 k3 k4 k5
  have k0 := row_cell r1 0
  have k1 := row_cell r1 1
  have k2 := row_cell r1 2
  have k3 := row_cell r2 0
  have k4 := row_cell r2 1
  have k5 := row_cell r2 2
  simp at k0 k1 k2 k3 k4 k5
  have H_r1 := Lib.hid r1; clear r1
  have H_r2 := Lib.hid r2; clear r2
  have H_r3 := Lib.hid r3; clear r3
  have H_fa := Lib.hid fa; clear fa
  go_wp2_with (fail)
  refine (H_hadd.out _).mono ?_
  rintro e w8 ⟨rfl, hs⟩
  subst hs
  go_wp2_with (fail)
  obtain ⟨ae, hae⟩ := H_hE.out.fresh H_fa.out
  have hne : 0 ≠ g + 1 + 1 := by
    obtain ⟨_, h0⟩ := H_hE.out
    have := ErrIs.lt h0
    have := H_hg.out
    omega
  have p0 := row_cell H_r3.out 0
  have p1 := row_cell H_r3.out 1
  have p2 := row_cell H_r3.out 2
  simp at p0 p1 p2
  have z0 : w8.frozen? ⟨g + 1 + 1, 0, none⟩ = false := frozen_of_row _ _ _ _ _ H_r3.out
  have z1 : w8.frozen? ⟨g + 1 + 1, 1, none⟩ = false := frozen_of_row _ _ _ _ _ H_r3.out
  have z2 : w8.frozen? ⟨g + 1 + 1, 2, none⟩ = false := frozen_of_row _ _ _ _ _ H_r3.out
  go_wp2_with (fail)
  go_region_held3 (fun (w' : World) => w'.cell? ⟨0, 0, none⟩ = some (.iface 115 (.pointer (some ae)))) (first | exact hae | exact far3 hne hae) (fail)
  go_wp2
  refine bodyPost_ret (results_cell_tmp_row rfl _ _ (g + 1 + 1) 62 #[.bool false, .int .i8 0, .int .u64 0] (0, 0) _ rfl (row_set (row_set (row_set H_r3.out))) Tryz.underlying62 rfl (by kernel_rfl)) rfl ?_
  exact ⟨ae, rfl, Fresh.set3 (H_fa.out.drewN 1) (by have := H_hg.out; omega)⟩

set_option maxRecDepth 20000 in
set_option maxHeartbeats 4000000 in
theorem addFint_gt_same (m1 m2 nz : Bool) (c1 s1 c2 s2 : Nat) (w : World) (hP : Pow10s w) (ms : Nat) (hs1 : s1 ≤ 19) (hs2 : s2 ≤ 19) (hc1 : c1 ≤ 9999999999999999999) (hc2 : c2 ≤ 9999999999999999999) (hsc : s2 < s1) (hfit : c2 * 10 ^ (s1 - s2) ≤ 9999999999999999999) (hsg : m1 = m2) (hsum : c1 + c2 * 10 ^ (s1 - s2) ≤ 9999999999999999999)
    (sz cz : Nat) (Pv : Value → Prop) (hnf : ∀ W, Fresh w W → Calls Tryz.prog 123 #[.bool m1, .int .u64 (c1 + c2 * 10 ^ (s1 - s2) : Nat), .int .i64 s1, .int .i64 ms] W (DOut W nz sz cz Pv)) :
    Calls Tryz.prog 102 #[gd m1 s1 c1, gd m2 s2 c2, .int .i64 ms] w (DOut w nz sz cz Pv) := by
  have t1 : decide ((s2 : Int) < (s1 : Int)) = true := by simp; omega
  have hlsh := fun W (hW : Fresh w W) => flsh_any c2 (s1 - s2) W (hP.fresh hW) hc2 (by omega)
  obtain ⟨k, hk⟩ : ∃ k, k = s1 - s2 := ⟨_, rfl⟩
  have hkI : (s1 : Int) - (s2 : Int) = (k : Int) := by omega
  have hkw : IntKind.i64.wrap (k : Int) = (k : Int) := wrap_nat k (by omega)
  rw [← hk] at hlsh hfit hsum hnf
  obtain ⟨b, hb⟩ : ∃ b, b = c2 * 10 ^ k := ⟨_, rfl⟩
  rw [← hb] at hlsh hfit hsum hnf
  have hm : mulTo b = .tuple #[.int .u64 b, .bool true] := by unfold mulTo; rw [if_pos hfit]
  rw [hm] at hlsh
  clear hm hb hk
  subst hsg
  have hadd := fun W => fadd_any c1 b W hc1 hfit
  obtain ⟨q, hq⟩ : ∃ q, q = c1 + b := ⟨_, rfl⟩
  rw [← hq] at hadd hsum hnf
  have hm2 : mulTo q = .tuple #[.int .u64 q, .bool true] := by unfold mulTo; rw [if_pos hsum]
  rw [hm2] at hadd
  clear hm2 hq hsum
  obtain ⟨g, hg⟩ : ∃ g, g = w.heap.size := ⟨_, rfl⟩
  have bx := boxes3 w #[.bool m1, .int .i8 s1, .int .u64 c1] #[.bool m1, .int .i8 s2, .int .u64 c2] #[.bool false, .int .i8 0, .int .u64 0] 62 62 62 g hg
  have H_bx := Lib.hid bx; clear bx
  have H_hP := Lib.hid hP; clear hP
  have H_hnf := Lib.hid hnf; clear hnf
  have H_hlsh := Lib.hid hlsh; clear hlsh
  have H_hadd := Lib.hid hadd; clear hadd
  go_enter Tryz.func102, Tryz.ntmps102
  go_wp2_with (fail)
  generalize hw1 : ((w.alloc _).alloc _).alloc _ = w1
  rw [← hg]
  obtain ⟨r1, r2, r3, fa, _⟩ := H_bx.out w1 hw1
  have k0 := row_cell r1 0
  have k1 := row_cell r1 1
  have k2 := row_cell r1 2
  have k3 := row_cell r2 0
  have k4 := row_cell r2 1
  have k5 := row_cell r2 2
  simp at k0 k1 k2 k3 k4 k5
  have H_r1 := Lib.hid r1; clear r1
  have H_r2 := Lib.hid r2; clear r2
  have H_r3 := Lib.hid r3; clear r3
  have H_fa := Lib.hid fa; clear fa
  have H_hw1 := Lib.hid hw1; clear hw1
  have H_hg := Lib.hid hg; clear hg
  go_wp2_with (fail)
  refine (Scale_any m1 s1 c1 _ hs1).mono ?_
  rintro e w2 ⟨rfl, f2⟩
  have r1 := row_fresh H_r1.out f2
  have r2 := row_fresh H_r2.out f2
  have r3 := row_fresh H_r3.out f2
  have fa := fresh_trans H_fa.out f2
  clear H_r1 H_r2 H_r3 H_fa f2
  clear k0 k1 k2 k3 k4 k5
  have k0 := row_cell r1 0
  have k1 := row_cell r1 1
  have k2 := row_cell r1 2
  have k3 := row_cell r2 0
  have k4 := row_cell r2 1
  have k5 := row_cell r2 2
  simp at k0 k1 k2 k3 k4 k5
  have H_r1 := Lib.hid r1; clear r1
  have H_r2 := Lib.hid r2; clear r2
  have H_r3 := Lib.hid r3; clear r3
  have H_fa := Lib.hid fa; clear fa
  go_wp2_with (fail)
  refine (IsNeg_any m1 s1 c1 _).mono ?_
  rintro e w3 ⟨rfl, f3⟩
  have r1 := row_fresh H_r1.out f3
  have r2 := row_fresh H_r2.out f3
  have r3 := row_fresh H_r3.out f3
  have fa := fresh_trans H_fa.out f3
  clear H_r1 H_r2 H_r3 H_fa f3
  clear k0 k1 k2 k3 k4 k5
  have k0 := row_cell r1 0
  have k1 := row_cell r1 1
  have k2 := row_cell r1 2
  have k3 := row_cell r2 0
  have k4 := row_cell r2 1
  have k5 := row_cell r2 2
  simp at k0 k1 k2 k3 k4 k5
  have H_r1 := Lib.hid r1; clear r1
  have H_r2 := Lib.hid r2; clear r2
  have H_r3 := Lib.hid r3; clear r3
  have H_fa := Lib.hid fa; clear fa
  go_wp2_with (fail)
  refine (Scale_any m1 s2 c2 _ hs2).mono ?_
  rintro e w4 ⟨rfl, f4⟩
  have r1 := row_fresh H_r1.out f4
  have r2 := row_fresh H_r2.out f4
  have r3 := row_fresh H_r3.out f4
  have fa := fresh_trans H_fa.out f4
  clear H_r1 H_r2 H_r3 H_fa f4
  clear k0 k1 k2 k3 k4 k5
  have k0 := row_cell r1 0
  have k1 := row_cell r1 1
  have k2 := row_cell r1 2
  have k3 := row_cell r2 0
  have k4 := row_cell r2 1
  have k5 := row_cell r2 2
  simp at k0 k1 k2 k3 k4 k5
  have H_r1 := Lib.hid r1; clear r1
  have H_r2 := Lib.hid r2; clear r2
  have H_r3 := Lib.hid r3; clear r3
  have H_fa := Lib.hid fa; clear fa
  go_wp2_with (fail)
  refine (Scale_any m1 s2 c2 _ hs2).mono ?_
  rintro e w5 ⟨rfl, f5⟩
  have r1 := row_fresh H_r1.out f5
  have r2 := row_fresh H_r2.out f5
  have r3 := row_fresh H_r3.out f5
  have fa := fresh_trans H_fa.out f5
  clear H_r1 H_r2 H_r3 H_fa f5
  clear k0 k1 k2 k3 k4 k5
  have k0 := row_cell r1 0
  have k1 := row_cell r1 1
  have k2 := row_cell r1 2
  have k3 := row_cell r2 0
  have k4 := row_cell r2 1
  have k5 := row_cell r2 2
  simp at k0 k1 k2 k3 k4 k5
  have H_r1 := Lib.hid r1; clear r1
  have H_r2 := Lib.hid r2; clear r2
  have H_r3 := Lib.hid r3; clear r3
  have H_fa := Lib.hid fa; clear fa
  go_wp2_with (fail)
  refine (H_hlsh.out _ H_fa.out).mono ?_
  rintro e w6 ⟨rfl, hs⟩
  subst hs
  go_wp2_with (fail)
  refine (IsNeg_any m1 s2 c2 _).mono ?_
  rintro e w7 ⟨rfl, f7⟩
  have r1 := row_fresh H_r1.out f7
  have r2 := row_fresh H_r2.out f7
  have r3 := row_fresh H_r3.out f7
  have fa := fresh_trans H_fa.out f7
  clear H_r1 H_r2 H_r3 H_fa f7
  clear k0 k1 k2 k3 k4 k5
  have k0 := row_cell r1 0
  have k1 := row_cell r1 1
  have k2 := row_cell r1 2
  have k3 := row_cell r2 0
  have k4 := row_cell r2 1
  have k5 := row_cell r2 2
  simp at k0 k1 k2 k3 k4 k5
  have H_r1 := Lib.hid r1; clear r1
  have H_r2 := Lib.hid r2; clear r2
  have H_r3 := Lib.hid r3; clear r3
  have H_fa := Lib.hid fa; clear fa
  go_wp2_with (fail)
  refine (H_hadd.out _).mono ?_
  rintro e w8 ⟨rfl, hs⟩
  subst hs
  go_wp2_with (fail)
  refine (H_hnf.out _ H_fa.out).mono ?_
  rintro e w9 ⟨ev, rfl, hev, f9⟩
  have r3 := row_fresh H_r3.out f9
  have p0 := row_cell r3 0
  have p1 := row_cell r3 1
  have p2 := row_cell r3 2
  simp at p0 p1 p2
  have z0 : w9.frozen? ⟨g + 1 + 1, 0, none⟩ = false := frozen_of_row _ _ _ _ _ r3
  have z1 : w9.frozen? ⟨g + 1 + 1, 1, none⟩ = false := frozen_of_row _ _ _ _ _ r3
  have z2 : w9.frozen? ⟨g + 1 + 1, 2, none⟩ = false := frozen_of_row _ _ _ _ _ r3
  have fa := fresh_trans H_fa.out f9
  clear H_r3 H_fa f9 k0 k1 k2 k3 k4 k5
  have H_r3 := Lib.hid r3; clear r3
  have H_fa := Lib.hid fa; clear fa
  have H_hev := Lib.hid hev; clear hev
  go_wp2_with (fail)
  refine bodyPost_ret (results_cell_tmp_row rfl _ _ (g + 1 + 1) 62 #[.bool nz, .int .i8 sz, .int .u64 cz] (0, 0) _ rfl (row_set (row_set (row_set H_r3.out))) Tryz.underlying62 rfl (by kernel_rfl)) rfl ?_
  exact ⟨ev, rfl, H_hev.out, Fresh.set3 H_fa.out (by have := H_hg.out; omega)⟩

set_option maxRecDepth 20000 in
set_option maxHeartbeats 4000000 in
theorem addFint_gt_less (m1 m2 nz : Bool) (c1 s1 c2 s2 : Nat) (w : World) (hP : Pow10s w) (ms : Nat) (hs1 : s1 ≤ 19) (hs2 : s2 ≤ 19) (hc1 : c1 ≤ 9999999999999999999) (hc2 : c2 ≤ 9999999999999999999) (hsc : s2 < s1) (hfit : c2 * 10 ^ (s1 - s2) ≤ 9999999999999999999) (hsg : m1 ≠ m2) (hsum : c1 < c2 * 10 ^ (s1 - s2))
    (sz cz : Nat) (Pv : Value → Prop) (hnf : ∀ W, Fresh w W → Calls Tryz.prog 123 #[.bool m2, .int .u64 (adf (c1) (c2 * 10 ^ (s1 - s2)) : Nat), .int .i64 s1, .int .i64 ms] W (DOut W nz sz cz Pv)) :
    Calls Tryz.prog 102 #[gd m1 s1 c1, gd m2 s2 c2, .int .i64 ms] w (DOut w nz sz cz Pv) := by
  have t1 : decide ((s2 : Int) < (s1 : Int)) = true := by simp; omega
  have hlsh := fun W (hW : Fresh w W) => flsh_any c2 (s1 - s2) W (hP.fresh hW) hc2 (by omega)
  obtain ⟨k, hk⟩ : ∃ k, k = s1 - s2 := ⟨_, rfl⟩
  have hkI : (s1 : Int) - (s2 : Int) = (k : Int) := by omega
  have hkw : IntKind.i64.wrap (k : Int) = (k : Int) := wrap_nat k (by omega)
  rw [← hk] at hlsh hfit hsum hnf
  obtain ⟨b, hb⟩ : ∃ b, b = c2 * 10 ^ k := ⟨_, rfl⟩
  rw [← hb] at hlsh hfit hsum hnf
  have hm : mulTo b = .tuple #[.int .u64 b, .bool true] := by unfold mulTo; rw [if_pos hfit]
  rw [hm] at hlsh
  clear hm hb hk
  have t4 : (m1 == m2) = false := by simpa using hsg
  have t5 : decide ((c1 : Int) < (b : Int)) = true := by simp; omega
  have hsub := fun W => fsubAbs_any c1 b W hc1 hfit
  generalize adf c1 b = q at *
  have H_hsg := Lib.hid hsg
  clear hsg
  obtain ⟨g, hg⟩ : ∃ g, g = w.heap.size := ⟨_, rfl⟩
  have bx := boxes3 w #[.bool m1, .int .i8 s1, .int .u64 c1] #[.bool m2, .int .i8 s2, .int .u64 c2] #[.bool false, .int .i8 0, .int .u64 0] 62 62 62 g hg
  have H_bx := Lib.hid bx; clear bx
  have H_hP := Lib.hid hP; clear hP
  have H_hnf := Lib.hid hnf; clear hnf
  have H_hlsh := Lib.hid hlsh; clear hlsh
  have H_hsub := Lib.hid hsub; clear hsub
  go_enter Tryz.func102, Tryz.ntmps102
  go_wp2_with (fail)
  generalize hw1 : ((w.alloc _).alloc _).alloc _ = w1
  rw [← hg]
  obtain ⟨r1, r2, r3, fa, _⟩ := H_bx.out w1 hw1
  have k0 := row_cell r1 0
  have k1 := row_cell r1 1
  have k2 := row_cell r1 2
  have k3 := row_cell r2 0
  have k4 := row_cell r2 1
  have k5 := row_cell r2 2
  simp at k0 k1 k2 k3 k4 k5
  have H_r1 := Lib.hid r1; clear r1
  have H_r2 := Lib.hid r2; clear r2
  have H_r3 := Lib.hid r3; clear r3
  have H_fa := Lib.hid fa; clear fa
  have H_hw1 := Lib.hid hw1; clear hw1
  have H_hg := Lib.hid hg; clear hg
  go_wp2_with (fail)
  refine (Scale_any m1 s1 c1 _ hs1).mono ?_
  rintro e w2 ⟨rfl, f2⟩
  have r1 := row_fresh H_r1.out f2
  have r2 := row_fresh H_r2.out f2
  have r3 := row_fresh H_r3.out f2
  have fa := fresh_trans H_fa.out f2
  clear H_r1 H_r2 H_r3 H_fa f2
  clear k0 k1 k2 k3 k4 k5
  have k0 := row_cell r1 0
  have k1 := row_cell r1 1
  have k2 := row_cell r1 2
  have k3 := row_cell r2 0
  have k4 := row_cell r2 1
  have k5 := row_cell r2 2
  simp at k0 k1 k2 k3 k4 k5
  have H_r1 := Lib.hid r1; clear r1
  have H_r2 := Lib.hid r2; clear r2
  have H_r3 := Lib.hid r3; clear r3
  have H_fa := Lib.hid fa; clear fa
  go_wp2_with (fail)
  refine (IsNeg_any m1 s1 c1 _).mono ?_
  rintro e w3 ⟨rfl, f3⟩
  have r1 := row_fresh H_r1.out f3
  have r2 := row_fresh H_r2.out f3
  have r3 := row_fresh H_r3.out f3
  have fa := fresh_trans H_fa.out f3
  clear H_r1 H_r2 H_r3 H_fa f3
  clear k0 k1 k2 k3 k4 k5
  have k0 := row_cell r1 0
  have k1 := row_cell r1 1
  have k2 := row_cell r1 2
  have k3 := row_cell r2 0
  have k4 := row_cell r2 1
  have k5 := row_cell r2 2
  simp at k0 k1 k2 k3 k4 k5
  have H_r1 := Lib.hid r1; clear r1
  have H_r2 := Lib.hid r2; clear r2
  have H_r3 := Lib.hid r3; clear r3
  have H_fa := Lib.hid fa; clear fa
  go_wp2_with (fail)
  refine (Scale_any m2 s2 c2 _ hs2).mono ?_
  rintro e w4 ⟨rfl, f4⟩
  have r1 := row_fresh H_r1.out f4
  have r2 := row_fresh H_r2.out f4
  have r3 := row_fresh H_r3.out f4
  have fa := fresh_trans H_fa.out f4
  clear H_r1 H_r2 H_r3 H_fa f4
  clear k0 k1 k2 k3 k4 k5
  have k0 := row_cell r1 0
  have k1 := row_cell r1 1
  have k2 := row_cell r1 2
  have k3 := row_cell r2 0
  have k4 := row_cell r2 1
  have k5 := row_cell r2 2
  simp at k0 k1 k2 k3 k4 k5
  have H_r1 := Lib.hid r1; clear r1
  have H_r2 := Lib.hid r2; clear r2
  have H_r3 := Lib.hid r3; clear r3
  have H_fa := Lib.hid fa; clear fa
  go_wp2_with (fail)
  refine (Scale_any m2 s2 c2 _ hs2).mono ?_
  rintro e w5 ⟨rfl, f5⟩
  have r1 := row_fresh H_r1.out f5
  have r2 := row_fresh H_r2.out f5
  have r3 := row_fresh H_r3.out f5
  have fa := fresh_trans H_fa.out f5
  clear H_r1 H_r2 H_r3 H_fa f5
  clear k0 k1 k2 k3 k4 k5
  have k0 := row_cell r1 0
  have k1 := row_cell r1 1
  have k2 := row_cell r1 2
  have k3 := row_cell r2 0
  have k4 := row_cell r2 1
  have k5 := row_cell r2 2
  simp at k0 k1 k2 k3 k4 k5
  have H_r1 := Lib.hid r1; clear r1
  have H_r2 := Lib.hid r2; clear r2
  have H_r3 := Lib.hid r3; clear r3
  have H_fa := Lib.hid fa; clear fa
  go_wp2_with (fail)
  refine (H_hlsh.out _ H_fa.out).mono ?_
  rintro e w6 ⟨rfl, hs⟩
  subst hs
  go_wp2_with (fail)
  refine (IsNeg_any m2 s2 c2 _).mono ?_
  rintro e w7 ⟨rfl, f7⟩
  have r1 := row_fresh H_r1.out f7
  have r2 := row_fresh H_r2.out f7
  have r3 := row_fresh H_r3.out f7
  have fa := fresh_trans H_fa.out f7
  clear H_r1 H_r2 H_r3 H_fa f7
  clear k0 k1 k2 k3 k4 k5
  have k0 := row_cell r1 0
  have k1 := row_cell r1 1
  have k2 := row_cell r1 2
  have k3 := row_cell r2 0
  have k4 := row_cell r2 1
  have k5 := row_cell r2 2
  simp at k0 k1 k2 k3 k4 k5
  have H_r1 := Lib.hid r1; clear r1
  have H_r2 := Lib.hid r2; clear r2
  have H_r3 := Lib.hid r3; clear r3
  have H_fa := Lib.hid fa; clear fa
  go_wp2_with (fail)
  refine (IsNeg_any m2 s2 c2 _).mono ?_
  rintro e w8 ⟨rfl, f8⟩
  have r1 := row_fresh H_r1.out f8
  have r2 := row_fresh H_r2.out f8
  have r3 := row_fresh H_r3.out f8
  have fa := fresh_trans H_fa.out f8
  clear H_r1 H_r2 H_r3 H_fa f8
  clear k0 k1 k2 k3 k4 k5
  have k0 := row_cell r1 0
  have k1 := row_cell r1 1
  have k2 := row_cell r1 2
  have k3 := row_cell r2 0
  have k4 := row_cell r2 1
  have k5 := row_cell r2 2
  simp at k0 k1 k2 k3 k4 k5
  have H_r1 := Lib.hid r1; clear r1
  have H_r2 := Lib.hid r2; clear r2
  have H_r3 := Lib.hid r3; clear r3
  have H_fa := Lib.hid fa; clear fa
  go_wp2_with (fail)
  refine (H_hsub.out _).mono ?_
  rintro e w9 ⟨rfl, hs⟩
  subst hs
  go_wp2_with (fail)
  refine (H_hnf.out _ H_fa.out).mono ?_
  rintro e w10 ⟨ev, rfl, hev, f9⟩
  have r3 := row_fresh H_r3.out f9
  have p0 := row_cell r3 0
  have p1 := row_cell r3 1
  have p2 := row_cell r3 2
  simp at p0 p1 p2
  have z0 : w10.frozen? ⟨g + 1 + 1, 0, none⟩ = false := frozen_of_row _ _ _ _ _ r3
  have z1 : w10.frozen? ⟨g + 1 + 1, 1, none⟩ = false := frozen_of_row _ _ _ _ _ r3
  have z2 : w10.frozen? ⟨g + 1 + 1, 2, none⟩ = false := frozen_of_row _ _ _ _ _ r3
  have fa := fresh_trans H_fa.out f9
  clear H_r3 H_fa f9 k0 k1 k2 k3 k4 k5
  have H_r3 := Lib.hid r3; clear r3
  have H_fa := Lib.hid fa; clear fa
  have H_hev := Lib.hid hev; clear hev
  go_wp2_with (fail)
  refine bodyPost_ret (results_cell_tmp_row rfl _ _ (g + 1 + 1) 62 #[.bool nz, .int .i8 sz, .int .u64 cz] (0, 0) _ rfl (row_set (row_set (row_set H_r3.out))) Tryz.underlying62 rfl (by kernel_rfl)) rfl ?_
  exact ⟨ev, rfl, H_hev.out, Fresh.set3 H_fa.out (by have := H_hg.out; omega)⟩

set_option maxRecDepth 20000 in
set_option maxHeartbeats 4000000 in
theorem addFint_gt_more (m1 m2 nz : Bool) (c1 s1 c2 s2 : Nat) (w : World) (hP : Pow10s w) (ms : Nat) (hs1 : s1 ≤ 19) (hs2 : s2 ≤ 19) (hc1 : c1 ≤ 9999999999999999999) (hc2 : c2 ≤ 9999999999999999999) (hsc : s2 < s1) (hfit : c2 * 10 ^ (s1 - s2) ≤ 9999999999999999999) (hsg : m1 ≠ m2) (hsum : ¬ c1 < c2 * 10 ^ (s1 - s2))
    (sz cz : Nat) (Pv : Value → Prop) (hnf : ∀ W, Fresh w W → Calls Tryz.prog 123 #[.bool m1, .int .u64 (adf (c1) (c2 * 10 ^ (s1 - s2)) : Nat), .int .i64 s1, .int .i64 ms] W (DOut W nz sz cz Pv)) :
    Calls Tryz.prog 102 #[gd m1 s1 c1, gd m2 s2 c2, .int .i64 ms] w (DOut w nz sz cz Pv) := by
  have t1 : decide ((s2 : Int) < (s1 : Int)) = true := by simp; omega
  have hlsh := fun W (hW : Fresh w W) => flsh_any c2 (s1 - s2) W (hP.fresh hW) hc2 (by omega)
  obtain ⟨k, hk⟩ : ∃ k, k = s1 - s2 := ⟨_, rfl⟩
  have hkI : (s1 : Int) - (s2 : Int) = (k : Int) := by omega
  have hkw : IntKind.i64.wrap (k : Int) = (k : Int) := wrap_nat k (by omega)
  rw [← hk] at hlsh hfit hsum hnf
  obtain ⟨b, hb⟩ : ∃ b, b = c2 * 10 ^ k := ⟨_, rfl⟩
  rw [← hb] at hlsh hfit hsum hnf
  have hm : mulTo b = .tuple #[.int .u64 b, .bool true] := by unfold mulTo; rw [if_pos hfit]
  rw [hm] at hlsh
  clear hm hb hk
  have t4 : (m1 == m2) = false := by simpa using hsg
  have t5 : decide ((c1 : Int) < (b : Int)) = false := by simp; omega
  have hsub := fun W => fsubAbs_any c1 b W hc1 hfit
  generalize adf c1 b = q at *
  have H_hsg := Lib.hid hsg
  clear hsg
  obtain ⟨g, hg⟩ : ∃ g, g = w.heap.size := ⟨_, rfl⟩
  have bx := boxes3 w #[.bool m1, .int .i8 s1, .int .u64 c1] #[.bool m2, .int .i8 s2, .int .u64 c2] #[.bool false, .int .i8 0, .int .u64 0] 62 62 62 g hg
  have H_bx := Lib.hid bx; clear bx
  have H_hP := Lib.hid hP; clear hP
  have H_hnf := Lib.hid hnf; clear hnf
  have H_hlsh := Lib.hid hlsh; clear hlsh
  have H_hsub := Lib.hid hsub; clear hsub
  go_enter Tryz.func102, Tryz.ntmps102
  go_wp2_with (fail)
  generalize hw1 : ((w.alloc _).alloc _).alloc _ = w1
  rw [← hg]
  obtain ⟨r1, r2, r3, fa, _⟩ := H_bx.out w1 hw1
  have k0 := row_cell r1 0
  have k1 := row_cell r1 1
  have k2 := row_cell r1 2
  have k3 := row_cell r2 0
  have k4 := row_cell r2 1
  have k5 := row_cell r2 2
  simp at k0 k1 k2 k3 k4 k5
  have H_r1 := Lib.hid r1; clear r1
  have H_r2 := Lib.hid r2; clear r2
  have H_r3 := Lib.hid r3; clear r3
  have H_fa := Lib.hid fa; clear fa
  have H_hw1 := Lib.hid hw1; clear hw1
  have H_hg := Lib.hid hg; clear hg
  go_wp2_with (fail)
  refine (Scale_any m1 s1 c1 _ hs1).mono ?_
  rintro e w2 ⟨rfl, f2⟩
  have r1 := row_fresh H_r1.out f2
  have r2 := row_fresh H_r2.out f2
  have r3 := row_fresh H_r3.out f2
  have fa := fresh_trans H_fa.out f2
  clear H_r1 H_r2 H_r3 H_fa f2
  clear k0 k1 k2 k3 k4 k5
  have k0 := row_cell r1 0
  have k1 := row_cell r1 1
  have k2 := row_cell r1 2
  have k3 := row_cell r2 0
  have k4 := row_cell r2 1
  have k5 := row_cell r2 2
  simp at k0 k1 k2 k3 k4 k5
  have H_r1 := Lib.hid r1; clear r1
  have H_r2 := Lib.hid r2; clear r2
  have H_r3 := Lib.hid r3; clear r3
  have H_fa := Lib.hid fa; clear fa
  go_wp2_with (fail)
  refine (IsNeg_any m1 s1 c1 _).mono ?_
  rintro e w3 ⟨rfl, f3⟩
  have r1 := row_fresh H_r1.out f3
  have r2 := row_fresh H_r2.out f3
  have r3 := row_fresh H_r3.out f3
  have fa := fresh_trans H_fa.out f3
  clear H_r1 H_r2 H_r3 H_fa f3
  clear k0 k1 k2 k3 k4 k5
  have k0 := row_cell r1 0
  have k1 := row_cell r1 1
  have k2 := row_cell r1 2
  have k3 := row_cell r2 0
  have k4 := row_cell r2 1
  have k5 := row_cell r2 2
  simp at k0 k1 k2 k3 k4 k5
  have H_r1 := Lib.hid r1; clear r1
  have H_r2 := Lib.hid r2; clear r2
  have H_r3 := Lib.hid r3; clear r3
  have H_fa := Lib.hid fa; clear fa
  go_wp2_with (fail)
  refine (Scale_any m2 s2 c2 _ hs2).mono ?_
  rintro e w4 ⟨rfl, f4⟩
  have r1 := row_fresh H_r1.out f4
  have r2 := row_fresh H_r2.out f4
  have r3 := row_fresh H_r3.out f4
  have fa := fresh_trans H_fa.out f4
  clear H_r1 H_r2 H_r3 H_fa f4
  clear k0 k1 k2 k3 k4 k5
  have k0 := row_cell r1 0
  have k1 := row_cell r1 1
  have k2 := row_cell r1 2
  have k3 := row_cell r2 0
  have k4 := row_cell r2 1
  have k5 := row_cell r2 2
  simp at k0 k1 k2 k3 k4 k5
  have H_r1 := Lib.hid r1; clear r1
  have H_r2 := Lib.hid r2; clear r2
  have H_r3 := Lib.hid r3; clear r3
  have H_fa := Lib.hid fa; clear fa
  go_wp2_with (fail)
  refine (Scale_any m2 s2 c2 _ hs2).mono ?_
  rintro e w5 ⟨rfl, f5⟩
  have r1 := row_fresh H_r1.out f5
  have r2 := row_fresh H_r2.out f5
  have r3 := row_fresh H_r3.out f5
  have fa := fresh_trans H_fa.out f5
  clear H_r1 H_r2 H_r3 H_fa f5
  clear k0 k1 k2 k3 k4 k5
  have k0 := row_cell r1 0
  have k1 := row_cell r1 1
  have k2 := row_cell r1 2
  have k3 := row_cell r2 0
  have k4 := row_cell r2 1
  have k5 := row_cell r2 2
  simp at k0 k1 k2 k3 k4 k5
  have H_r1 := Lib.hid r1; clear r1
  have H_r2 := Lib.hid r2; clear r2
  have H_r3 := Lib.hid r3; clear r3
  have H_fa := Lib.hid fa; clear fa
  go_wp2_with (fail)
  refine (H_hlsh.out _ H_fa.out).mono ?_
  rintro e w6 ⟨rfl, hs⟩
  subst hs
  go_wp2_with (fail)
  refine (IsNeg_any m2 s2 c2 _).mono ?_
  rintro e w7 ⟨rfl, f7⟩
  have r1 := row_fresh H_r1.out f7
  have r2 := row_fresh H_r2.out f7
  have r3 := row_fresh H_r3.out f7
  have fa := fresh_trans H_fa.out f7
  clear H_r1 H_r2 H_r3 H_fa f7
  clear k0 k1 k2 k3 k4 k5
  have k0 := row_cell r1 0
  have k1 := row_cell r1 1
  have k2 := row_cell r1 2
  have k3 := row_cell r2 0
  have k4 := row_cell r2 1
  have k5 := row_cell r2 2
  simp at k0 k1 k2 k3 k4 k5
  have H_r1 := Lib.hid r1; clear r1
  have H_r2 := Lib.hid r2; clear r2
  have H_r3 := Lib.hid r3; clear r3
  have H_fa := Lib.hid fa; clear fa
  go_wp2_with (fail)
  refine (H_hsub.out _).mono ?_
  rintro e w8 ⟨rfl, hs⟩
  subst hs
  go_wp2_with (fail)
  refine (H_hnf.out _ H_fa.out).mono ?_
  rintro e w9 ⟨ev, rfl, hev, f9⟩
  have r3 := row_fresh H_r3.out f9
  have p0 := row_cell r3 0
  have p1 := row_cell r3 1
  have p2 := row_cell r3 2
  simp at p0 p1 p2
  have z0 : w9.frozen? ⟨g + 1 + 1, 0, none⟩ = false := frozen_of_row _ _ _ _ _ r3
  have z1 : w9.frozen? ⟨g + 1 + 1, 1, none⟩ = false := frozen_of_row _ _ _ _ _ r3
  have z2 : w9.frozen? ⟨g + 1 + 1, 2, none⟩ = false := frozen_of_row _ _ _ _ _ r3
  have fa := fresh_trans H_fa.out f9
  clear H_r3 H_fa f9 k0 k1 k2 k3 k4 k5
  have H_r3 := Lib.hid r3; clear r3
  have H_fa := Lib.hid fa; clear fa
  have H_hev := Lib.hid hev; clear hev
  go_wp2_with (fail)
  refine bodyPost_ret (results_cell_tmp_row rfl _ _ (g + 1 + 1) 62 #[.bool nz, .int .i8 sz, .int .u64 cz] (0, 0) _ rfl (row_set (row_set (row_set H_r3.out))) Tryz.underlying62 rfl (by kernel_rfl)) rfl ?_
  exact ⟨ev, rfl, H_hev.out, Fresh.set3 H_fa.out (by have := H_hg.out; omega)⟩

set_option maxRecDepth 20000 in
set_option maxHeartbeats 4000000 in
theorem addFint_eq_addno (m1 m2 : Bool) (c1 s1 c2 s2 : Nat) (w : World) (hP : Pow10s w) (hE : ErrIs w) (ms : Nat) (hs1 : s1 ≤ 19) (hs2 : s2 ≤ 19) (hc1 : c1 ≤ 9999999999999999999) (hc2 : c2 ≤ 9999999999999999999) (hsc : s1 = s2) (hsg : m1 = m2) (hsum : ¬ c1 + c2 ≤ 9999999999999999999) :
    Calls Tryz.prog 102 #[gd m1 s1 c1, gd m2 s2 c2, .int .i64 ms] w (ClampErr w) := by
  subst hsc
  have t1 : decide ((s1 : Int) < (s1 : Int)) = false := by simp
  subst hsg
  have hadd := fun W => fadd_any c1 c2 W hc1 hc2
  obtain ⟨q, hq⟩ : ∃ q, q = c1 + c2 := ⟨_, rfl⟩
  rw [← hq] at hadd hsum
  have hm2 : mulTo q = .tuple #[.int .u64 0, .bool false] := by unfold mulTo; rw [if_neg hsum]
  rw [hm2] at hadd
  clear hm2 hq hsum
  obtain ⟨g, hg⟩ : ∃ g, g = w.heap.size := ⟨_, rfl⟩
  have bx := boxes3 w #[.bool m1, .int .i8 s1, .int .u64 c1] #[.bool m1, .int .i8 s1, .int .u64 c2] #[.bool false, .int .i8 0, .int .u64 0] 62 62 62 g hg
  have H_bx := Lib.hid bx; clear bx
  have H_hP := Lib.hid hP; clear hP
  have H_hE := Lib.hid hE; clear hE
  have H_hadd := Lib.hid hadd; clear hadd
  go_enter Tryz.func102, Tryz.ntmps102
  go_wp2_with (fail)
  generalize hw1 : ((w.alloc _).alloc _).alloc _ = w1
  rw [← hg]
  obtain ⟨r1, r2, r3, fa, _⟩ := H_bx.out w1 hw1
  have k0 := row_cell r1 0
  have k1 := row_cell r1 1
  have k2 := row_cell r1 2
  have k3 := row_cell r2 0
  have k4 := row_cell r2 1
  have k5 := row_cell r2 2
  simp at k0 k1 k2 k3 k4 k5
  have H_r1 := Lib.hid r1; clear r1
  have H_r2 := Lib.hid r2; clear r2
  have H_r3 := Lib.hid r3; clear r3
  have H_fa := Lib.hid fa; clear fa
  have H_hw1 := Lib.hid hw1; clear hw1
  have H_hg := Lib.hid hg; clear hg
  go_wp2_with (fail)
  refine (Scale_any m1 s1 c1 _ hs1).mono ?_
  rintro e w2 ⟨rfl, f2⟩
  have r1 := row_fresh H_r1.out f2
  have r2 := row_fresh H_r2.out f2
  have r3 := row_fresh H_r3.out f2
  have fa := fresh_trans H_fa.out f2
  clear H_r1 H_r2 H_r3 H_fa f2
  clear k0 k1 k2 k3 k4 k5
  have k0 := row_cell r1 0
  have k1 := row_cell r1 1
  have k2 := row_cell r1 2
  have k3 := row_cell r2 0
  have k4 := row_cell r2 1
  have k5 := row_cell r2 2
  simp at k0 k1 k2 k3 k4 k5
  have H_r1 := Lib.hid r1; clear r1
  have H_r2 := Lib.hid r2; clear r2
  have H_r3 := Lib.hid r3; clear r3
  have H_fa := Lib.hid fa; clear fa
  go_wp2_with (fail)
  refine (IsNeg_any m1 s1 c1 _).mono ?_
  rintro e w3 ⟨rfl, f3⟩
  have r1 := row_fresh H_r1.out f3
  have r2 := row_fresh H_r2.out f3
  have r3 := row_fresh H_r3.out f3
  have fa := fresh_trans H_fa.out f3
  clear H_r1 H_r2 H_r3 H_fa f3
  clear k0 k1 k2 k3 k4 k5
  have k0 := row_cell r1 0
  have k1 := row_cell r1 1
  have k2 := row_cell r1 2
  have k3 := row_cell r2 0
  have k4 := row_cell r2 1
  have k5 := row_cell r2 2
  simp at k0 k1 k2 k3 k4 k5
  have H_r1 := Lib.hid r1; clear r1
  have H_r2 := Lib.hid r2; clear r2
  have H_r3 := Lib.hid r3; clear r3
  have H_fa := Lib.hid fa; clear fa
  go_wp2_with (fail)
  refine (Scale_any m1 s1 c2 _ hs1).mono ?_
  rintro e w4 ⟨rfl, f4⟩
  have r1 := row_fresh H_r1.out f4
  have r2 := row_fresh H_r2.out f4
  have r3 := row_fresh H_r3.out f4
  have fa := fresh_trans H_fa.out f4
  clear H_r1 H_r2 H_r3 H_fa f4
  clear k0 k1 k2 k3 k4 k5
  have k0 := row_cell r1 0
  have k1 := row_cell r1 1
  have k2 := row_cell r1 2
  have k3 := row_cell r2 0
  have k4 := row_cell r2 1
  have k5 := row_cell r2 2
  simp at k0 k1 k2 k3 k4 k5
  have H_r1 := Lib.hid r1; clear r1
  have H_r2 := Lib.hid r2; clear r2
  have H_r3 := Lib.hid r3; clear r3
  have H_fa := Lib.hid fa; clear fa
  go_wp2_with (fail)
  refine (Scale_any m1 s1 c2 _ hs1).mono ?_
  rintro e w5 ⟨rfl, f5⟩
  have r1 := row_fresh H_r1.out f5
  have r2 := row_fresh H_r2.out f5
  have r3 := row_fresh H_r3.out f5
  have fa := fresh_trans H_fa.out f5
  clear H_r1 H_r2 H_r3 H_fa f5
  clear k0 k1 k2 k3 k4 k5
  have k0 := row_cell r1 0
  have k1 := row_cell r1 1
  have k2 := row_cell r1 2
  have k3 := row_cell r2 0
  have k4 := row_cell r2 1
  have k5 := row_cell r2 2
  simp at k0 k1 k2 k3 k4 k5
  have H_r1 := Lib.hid r1; clear r1
  have H_r2 := Lib.hid r2; clear r2
  have H_r3 := Lib.hid r3; clear r3
  have H_fa := Lib.hid fa; clear fa
  go_wp2_with (fail)
  refine (IsNeg_any m1 s1 c2 _).mono ?_
  rintro e w6 ⟨rfl, f6⟩
  have r1 := row_fresh H_r1.out f6
  have r2 := row_fresh H_r2.out f6
  have r3 := row_fresh H_r3.out f6
  have fa := fresh_trans H_fa.out f6
  clear H_r1 H_r2 H_r3 H_fa f6
  clear k0 k1 k2 k3 k4 k5
  have k0 := row_cell r1 0
  have k1 := row_cell r1 1
  have k2 := row_cell r1 2
  have k3 := row_cell r2 0
  have k4 := row_cell r2 1
  have k5 := row_cell r2 2
  simp at k0 k1 k2 k3 k4 k5
  have H_r1 := Lib.hid r1; clear r1
  have H_r2 := Lib.hid r2; clear r2
  have H_r3 := Lib.hid r3; clear r3
  have H_fa := Lib.hid fa; clear fa
  go_wp2_with (fail)
  refine (H_hadd.out _).mono ?_
  rintro e w7 ⟨rfl, hs⟩
  subst hs
  go_wp2_with (fail)
  obtain ⟨ae, hae⟩ := H_hE.out.fresh H_fa.out
  have hne : 0 ≠ g + 1 + 1 := by
    obtain ⟨_, h0⟩ := H_hE.out
    have := ErrIs.lt h0
    have := H_hg.out
    omega
  have p0 := row_cell H_r3.out 0
  have p1 := row_cell H_r3.out 1
  have p2 := row_cell H_r3.out 2
  simp at p0 p1 p2
  have z0 : w7.frozen? ⟨g + 1 + 1, 0, none⟩ = false := frozen_of_row _ _ _ _ _ H_r3.out
  have z1 : w7.frozen? ⟨g + 1 + 1, 1, none⟩ = false := frozen_of_row _ _ _ _ _ H_r3.out
  have z2 : w7.frozen? ⟨g + 1 + 1, 2, none⟩ = false := frozen_of_row _ _ _ _ _ H_r3.out
  go_wp2_with (fail)
  go_region_held3 (fun (w' : World) => w'.cell? ⟨0, 0, none⟩ = some (.iface 115 (.pointer (some ae)))) (first | exact hae | exact far3 hne hae) (fail)
  go_wp2
  refine bodyPost_ret (results_cell_tmp_row rfl _ _ (g + 1 + 1) 62 #[.bool false, .int .i8 0, .int .u64 0] (0, 0) _ rfl (row_set (row_set (row_set H_r3.out))) Tryz.underlying62 rfl (by kernel_rfl)) rfl ?_
  exact ⟨ae, rfl, Fresh.set3 (H_fa.out.drewN 1) (by have := H_hg.out; omega)⟩

set_option maxRecDepth 20000 in
set_option maxHeartbeats 4000000 in
theorem addFint_eq_same (m1 m2 nz : Bool) (c1 s1 c2 s2 : Nat) (w : World) (hP : Pow10s w) (ms : Nat) (hs1 : s1 ≤ 19) (hs2 : s2 ≤ 19) (hc1 : c1 ≤ 9999999999999999999) (hc2 : c2 ≤ 9999999999999999999) (hsc : s1 = s2) (hsg : m1 = m2) (hsum : c1 + c2 ≤ 9999999999999999999)
    (sz cz : Nat) (Pv : Value → Prop) (hnf : ∀ W, Fresh w W → Calls Tryz.prog 123 #[.bool m1, .int .u64 (c1 + c2 : Nat), .int .i64 s1, .int .i64 ms] W (DOut W nz sz cz Pv)) :
    Calls Tryz.prog 102 #[gd m1 s1 c1, gd m2 s2 c2, .int .i64 ms] w (DOut w nz sz cz Pv) := by
  subst hsc
  have t1 : decide ((s1 : Int) < (s1 : Int)) = false := by simp
  subst hsg
  have hadd := fun W => fadd_any c1 c2 W hc1 hc2
  obtain ⟨q, hq⟩ : ∃ q, q = c1 + c2 := ⟨_, rfl⟩
  rw [← hq] at hadd hsum hnf
  have hm2 : mulTo q = .tuple #[.int .u64 q, .bool true] := by unfold mulTo; rw [if_pos hsum]
  rw [hm2] at hadd
  clear hm2 hq hsum
  obtain ⟨g, hg⟩ : ∃ g, g = w.heap.size := ⟨_, rfl⟩
  have bx := boxes3 w #[.bool m1, .int .i8 s1, .int .u64 c1] #[.bool m1, .int .i8 s1, .int .u64 c2] #[.bool false, .int .i8 0, .int .u64 0] 62 62 62 g hg
  have H_bx := Lib.hid bx; clear bx
  have H_hP := Lib.hid hP; clear hP
  have H_hnf := Lib.hid hnf; clear hnf
  have H_hadd := Lib.hid hadd; clear hadd
  go_enter Tryz.func102, Tryz.ntmps102
  go_wp2_with (fail)
  generalize hw1 : ((w.alloc _).alloc _).alloc _ = w1
  rw [← hg]
  obtain ⟨r1, r2, r3, fa, _⟩ := H_bx.out w1 hw1
  have k0 := row_cell r1 0
  have k1 := row_cell r1 1
  have k2 := row_cell r1 2
  have k3 := row_cell r2 0
  have k4 := row_cell r2 1
  have k5 := row_cell r2 2
  simp at k0 k1 k2 k3 k4 k5
  have H_r1 := Lib.hid r1; clear r1
  have H_r2 := Lib.hid r2; clear r2
  have H_r3 := Lib.hid r3; clear r3
  have H_fa := Lib.hid fa; clear fa
  have H_hw1 := Lib.hid hw1; clear hw1
  have H_hg := Lib.hid hg; clear hg
  go_wp2_with (fail)
  refine (Scale_any m1 s1 c1 _ hs1).mono ?_
  rintro e w2 ⟨rfl, f2⟩
  have r1 := row_fresh H_r1.out f2
  have r2 := row_fresh H_r2.out f2
  have r3 := row_fresh H_r3.out f2
  have fa := fresh_trans H_fa.out f2
  clear H_r1 H_r2 H_r3 H_fa f2
  clear k0 k1 k2 k3 k4 k5
  have k0 := row_cell r1 0
  have k1 := row_cell r1 1
  have k2 := row_cell r1 2
  have k3 := row_cell r2 0
  have k4 := row_cell r2 1
  have k5 := row_cell r2 2
  simp at k0 k1 k2 k3 k4 k5
  have H_r1 := Lib.hid r1; clear r1
  have H_r2 := Lib.hid r2; clear r2
  have H_r3 := Lib.hid r3; clear r3
  have H_fa := Lib.hid fa; clear fa
  go_wp2_with (fail)
  refine (IsNeg_any m1 s1 c1 _).mono ?_
  rintro e w3 ⟨rfl, f3⟩
  have r1 := row_fresh H_r1.out f3
  have r2 := row_fresh H_r2.out f3
  have r3 := row_fresh H_r3.out f3
  have fa := fresh_trans H_fa.out f3
  clear H_r1 H_r2 H_r3 H_fa f3
  clear k0 k1 k2 k3 k4 k5
  have k0 := row_cell r1 0
  have k1 := row_cell r1 1
  have k2 := row_cell r1 2
  have k3 := row_cell r2 0
  have k4 := row_cell r2 1
  have k5 := row_cell r2 2
  simp at k0 k1 k2 k3 k4 k5
  have H_r1 := Lib.hid r1; clear r1
  have H_r2 := Lib.hid r2; clear r2
  have H_r3 := Lib.hid r3; clear r3
  have H_fa := Lib.hid fa; clear fa
  go_wp2_with (fail)
  refine (Scale_any m1 s1 c2 _ hs1).mono ?_
  rintro e w4 ⟨rfl, f4⟩
  have r1 := row_fresh H_r1.out f4
  have r2 := row_fresh H_r2.out f4
  have r3 := row_fresh H_r3.out f4
  have fa := fresh_trans H_fa.out f4
  clear H_r1 H_r2 H_r3 H_fa f4
  clear k0 k1 k2 k3 k4 k5
  have k0 := row_cell r1 0
  have k1 := row_cell r1 1
  have k2 := row_cell r1 2
  have k3 := row_cell r2 0
  have k4 := row_cell r2 1
  have k5 := row_cell r2 2
  simp at k0 k1 k2 k3 k4 k5
  have H_r1 := Lib.hid r1; clear r1
  have H_r2 := Lib.hid r2; clear r2
  have H_r3 := Lib.hid r3; clear r3
  have H_fa := Lib.hid fa; clear fa
  go_wp2_with (fail)
  refine (Scale_any m1 s1 c2 _ hs1).mono ?_
  rintro e w5 ⟨rfl, f5⟩
  have r1 := row_fresh H_r1.out f5
  have r2 := row_fresh H_r2.out f5
  have r3 := row_fresh H_r3.out f5
  have fa := fresh_trans H_fa.out f5
  clear H_r1 H_r2 H_r3 H_fa f5
  clear k0 k1 k2 k3 k4 k5
  have k0 := row_cell r1 0
  have k1 := row_cell r1 1
  have k2 := row_cell r1 2
  have k3 := row_cell r2 0
  have k4 := row_cell r2 1
  have k5 := row_cell r2 2
  simp at k0 k1 k2 k3 k4 k5
  have H_r1 := Lib.hid r1; clear r1
  have H_r2 := Lib.hid r2; clear r2
  have H_r3 := Lib.hid r3; clear r3
  have H_fa := Lib.hid fa; clear fa
  go_wp2_with (fail)
  refine (IsNeg_any m1 s1 c2 _).mono ?_
  rintro e w6 ⟨rfl, f6⟩
  have r1 := row_fresh H_r1.out f6
  have r2 := row_fresh H_r2.out f6
  have r3 := row_fresh H_r3.out f6
  have fa := fresh_trans H_fa.out f6
  clear H_r1 H_r2 H_r3 H_fa f6
  clear k0 k1 k2 k3 k4 k5
  have k0 := row_cell r1 0
  have k1 := row_cell r1 1
  have k2 := row_cell r1 2
  have k3 := row_cell r2 0
  have k4 := row_cell r2 1
  have k5 := row_cell r2 2
  simp at k0 k1 k2 k3 k4 k5
  have H_r1 := Lib.hid r1; clear r1
  have H_r2 := Lib.hid r2; clear r2
  have H_r3 := Lib.hid r3; clear r3
  have H_fa := Lib.hid fa; clear fa
  go_wp2_with (fail)
  refine (H_hadd.out _).mono ?_
  rintro e w7 ⟨rfl, hs⟩
  subst hs
  go_wp2_with (fail)
  refine (H_hnf.out _ H_fa.out).mono ?_
  rintro e w8 ⟨ev, rfl, hev, f9⟩
  have r3 := row_fresh H_r3.out f9
  have p0 := row_cell r3 0
  have p1 := row_cell r3 1
  have p2 := row_cell r3 2
  simp at p0 p1 p2
  have z0 : w8.frozen? ⟨g + 1 + 1, 0, none⟩ = false := frozen_of_row _ _ _ _ _ r3
  have z1 : w8.frozen? ⟨g + 1 + 1, 1, none⟩ = false := frozen_of_row _ _ _ _ _ r3
  have z2 : w8.frozen? ⟨g + 1 + 1, 2, none⟩ = false := frozen_of_row _ _ _ _ _ r3
  have fa := fresh_trans H_fa.out f9
  clear H_r3 H_fa f9 k0 k1 k2 k3 k4 k5
  have H_r3 := Lib.hid r3; clear r3
  have H_fa := Lib.hid fa; clear fa
  have H_hev := Lib.hid hev; clear hev
  go_wp2_with (fail)
  refine bodyPost_ret (results_cell_tmp_row rfl _ _ (g + 1 + 1) 62 #[.bool nz, .int .i8 sz, .int .u64 cz] (0, 0) _ rfl (row_set (row_set (row_set H_r3.out))) Tryz.underlying62 rfl (by kernel_rfl)) rfl ?_
  exact ⟨ev, rfl, H_hev.out, Fresh.set3 H_fa.out (by have := H_hg.out; omega)⟩

set_option maxRecDepth 20000 in
set_option maxHeartbeats 4000000 in
theorem addFint_eq_less (m1 m2 nz : Bool) (c1 s1 c2 s2 : Nat) (w : World) (hP : Pow10s w) (ms : Nat) (hs1 : s1 ≤ 19) (hs2 : s2 ≤ 19) (hc1 : c1 ≤ 9999999999999999999) (hc2 : c2 ≤ 9999999999999999999) (hsc : s1 = s2) (hsg : m1 ≠ m2) (hsum : c1 < c2)
    (sz cz : Nat) (Pv : Value → Prop) (hnf : ∀ W, Fresh w W → Calls Tryz.prog 123 #[.bool m2, .int .u64 (adf (c1) (c2) : Nat), .int .i64 s1, .int .i64 ms] W (DOut W nz sz cz Pv)) :
    Calls Tryz.prog 102 #[gd m1 s1 c1, gd m2 s2 c2, .int .i64 ms] w (DOut w nz sz cz Pv) := by
  subst hsc
  have t1 : decide ((s1 : Int) < (s1 : Int)) = false := by simp
  have t4 : (m1 == m2) = false := by simpa using hsg
  have t5 : decide ((c1 : Int) < (c2 : Int)) = true := by simp; omega
  have hsub := fun W => fsubAbs_any c1 c2 W hc1 hc2
  generalize adf c1 c2 = q at *
  have H_hsg := Lib.hid hsg
  clear hsg
  obtain ⟨g, hg⟩ : ∃ g, g = w.heap.size := ⟨_, rfl⟩
  have bx := boxes3 w #[.bool m1, .int .i8 s1, .int .u64 c1] #[.bool m2, .int .i8 s1, .int .u64 c2] #[.bool false, .int .i8 0, .int .u64 0] 62 62 62 g hg
  have H_bx := Lib.hid bx; clear bx
  have H_hP := Lib.hid hP; clear hP
  have H_hnf := Lib.hid hnf; clear hnf
  have H_hsub := Lib.hid hsub; clear hsub
  go_enter Tryz.func102, Tryz.ntmps102
  go_wp2_with (fail)
  generalize hw1 : ((w.alloc _).alloc _).alloc _ = w1
  rw [← hg]
  obtain ⟨r1, r2, r3, fa, _⟩ := H_bx.out w1 hw1
  have k0 := row_cell r1 0
  have k1 := row_cell r1 1
  have k2 := row_cell r1 2
  have k3 := row_cell r2 0
  have k4 := row_cell r2 1
  have k5 := row_cell r2 2
  simp at k0 k1 k2 k3 k4 k5
  have H_r1 := Lib.hid r1; clear r1
  have H_r2 := Lib.hid r2; clear r2
  have H_r3 := Lib.hid r3; clear r3
  have H_fa := Lib.hid fa; clear fa
  have H_hw1 := Lib.hid hw1; clear hw1
  have H_hg := Lib.hid hg; clear hg
  go_wp2_with (fail)
  refine (Scale_any m1 s1 c1 _ hs1).mono ?_
  rintro e w2 ⟨rfl, f2⟩
  have r1 := row_fresh H_r1.out f2
  have r2 := row_fresh H_r2.out f2
  have r3 := row_fresh H_r3.out f2
  have fa := fresh_trans H_fa.out f2
  clear H_r1 H_r2 H_r3 H_fa f2
  clear k0 k1 k2 k3 k4 k5
  have k0 := row_cell r1 0
  have k1 := row_cell r1 1
  have k2 := row_cell r1 2
  have k3 := row_cell r2 0
  have k4 := row_cell r2 1
  have k5 := row_cell r2 2
  simp at k0 k1 k2 k3 k4 k5
  have H_r1 := Lib.hid r1; clear r1
  have H_r2 := Lib.hid r2; clear r2
  have H_r3 := Lib.hid r3; clear r3
  have H_fa := Lib.hid fa; clear fa
  go_wp2_with (fail)
  refine (IsNeg_any m1 s1 c1 _).mono ?_
  rintro e w3 ⟨rfl, f3⟩
  have r1 := row_fresh H_r1.out f3
  have r2 := row_fresh H_r2.out f3
  have r3 := row_fresh H_r3.out f3
  have fa := fresh_trans H_fa.out f3
  clear H_r1 H_r2 H_r3 H_fa f3
  clear k0 k1 k2 k3 k4 k5
  have k0 := row_cell r1 0
  have k1 := row_cell r1 1
  have k2 := row_cell r1 2
  have k3 := row_cell r2 0
  have k4 := row_cell r2 1
  have k5 := row_cell r2 2
  simp at k0 k1 k2 k3 k4 k5
  have H_r1 := Lib.hid r1; clear r1
  have H_r2 := Lib.hid r2; clear r2
  have H_r3 := Lib.hid r3; clear r3
  have H_fa := Lib.hid fa; clear fa
  go_wp2_with (fail)
  refine (Scale_any m2 s1 c2 _ hs1).mono ?_
  rintro e w4 ⟨rfl, f4⟩
  have r1 := row_fresh H_r1.out f4
  have r2 := row_fresh H_r2.out f4
  have r3 := row_fresh H_r3.out f4
  have fa := fresh_trans H_fa.out f4
  clear H_r1 H_r2 H_r3 H_fa f4
  clear k0 k1 k2 k3 k4 k5
  have k0 := row_cell r1 0
  have k1 := row_cell r1 1
  have k2 := row_cell r1 2
  have k3 := row_cell r2 0
  have k4 := row_cell r2 1
  have k5 := row_cell r2 2
  simp at k0 k1 k2 k3 k4 k5
  have H_r1 := Lib.hid r1; clear r1
  have H_r2 := Lib.hid r2; clear r2
  have H_r3 := Lib.hid r3; clear r3
  have H_fa := Lib.hid fa; clear fa
  go_wp2_with (fail)
  refine (Scale_any m2 s1 c2 _ hs1).mono ?_
  rintro e w5 ⟨rfl, f5⟩
  have r1 := row_fresh H_r1.out f5
  have r2 := row_fresh H_r2.out f5
  have r3 := row_fresh H_r3.out f5
  have fa := fresh_trans H_fa.out f5
  clear H_r1 H_r2 H_r3 H_fa f5
  clear k0 k1 k2 k3 k4 k5
  have k0 := row_cell r1 0
  have k1 := row_cell r1 1
  have k2 := row_cell r1 2
  have k3 := row_cell r2 0
  have k4 := row_cell r2 1
  have k5 := row_cell r2 2
  simp at k0 k1 k2 k3 k4 k5
  have H_r1 := Lib.hid r1; clear r1
  have H_r2 := Lib.hid r2; clear r2
  have H_r3 := Lib.hid r3; clear r3
  have H_fa := Lib.hid fa; clear fa
  go_wp2_with (fail)
  refine (IsNeg_any m2 s1 c2 _).mono ?_
  rintro e w6 ⟨rfl, f6⟩
  have r1 := row_fresh H_r1.out f6
  have r2 := row_fresh H_r2.out f6
  have r3 := row_fresh H_r3.out f6
  have fa := fresh_trans H_fa.out f6
  clear H_r1 H_r2 H_r3 H_fa f6
  clear k0 k1 k2 k3 k4 k5
  have k0 := row_cell r1 0
  have k1 := row_cell r1 1
  have k2 := row_cell r1 2
  have k3 := row_cell r2 0
  have k4 := row_cell r2 1
  have k5 := row_cell r2 2
  simp at k0 k1 k2 k3 k4 k5
  have H_r1 := Lib.hid r1; clear r1
  have H_r2 := Lib.hid r2; clear r2
  have H_r3 := Lib.hid r3; clear r3
  have H_fa := Lib.hid fa; clear fa
  go_wp2_with (fail)
  refine (IsNeg_any m2 s1 c2 _).mono ?_
  rintro e w7 ⟨rfl, f7⟩
  have r1 := row_fresh H_r1.out f7
  have r2 := row_fresh H_r2.out f7
  have r3 := row_fresh H_r3.out f7
  have fa := fresh_trans H_fa.out f7
  clear H_r1 H_r2 H_r3 H_fa f7
  clear k0 k1 k2 k3 k4 k5
  have k0 := row_cell r1 0
  have k1 := row_cell r1 1
  have k2 := row_cell r1 2
  have k3 := row_cell r2 0
  have k4 := row_cell r2 1
  have k5 := row_cell r2 2
  simp at k0 k1 k2 k3 k4 k5
  have H_r1 := Lib.hid r1; clear r1
  have H_r2 := Lib.hid r2; clear r2
  have H_r3 := Lib.hid r3; clear r3
  have H_fa := Lib.hid fa; clear fa
  go_wp2_with (fail)
  refine (H_hsub.out _).mono ?_
  rintro e w8 ⟨rfl, hs⟩
  subst hs
  go_wp2_with (fail)
  refine (H_hnf.out _ H_fa.out).mono ?_
  rintro e w9 ⟨ev, rfl, hev, f9⟩
  have r3 := row_fresh H_r3.out f9
  have p0 := row_cell r3 0
  have p1 := row_cell r3 1
  have p2 := row_cell r3 2
  simp at p0 p1 p2
  have z0 : w9.frozen? ⟨g + 1 + 1, 0, none⟩ = false := frozen_of_row _ _ _ _ _ r3
  have z1 : w9.frozen? ⟨g + 1 + 1, 1, none⟩ = false := frozen_of_row _ _ _ _ _ r3
  have z2 : w9.frozen? ⟨g + 1 + 1, 2, none⟩ = false := frozen_of_row _ _ _ _ _ r3
  have fa := fresh_trans H_fa.out f9
  clear H_r3 H_fa f9 k0 k1 k2 k3 k4 k5
  have H_r3 := Lib.hid r3; clear r3
  have H_fa := Lib.hid fa; clear fa
  have H_hev := Lib.hid hev; clear hev
  go_wp2_with (fail)
  refine bodyPost_ret (results_cell_tmp_row rfl _ _ (g + 1 + 1) 62 #[.bool nz, .int .i8 sz, .int .u64 cz] (0, 0) _ rfl (row_set (row_set (row_set H_r3.out))) Tryz.underlying62 rfl (by kernel_rfl)) rfl ?_
  exact ⟨ev, rfl, H_hev.out, Fresh.set3 H_fa.out (by have := H_hg.out; omega)⟩

set_option maxRecDepth 20000 in
set_option maxHeartbeats 4000000 in
theorem addFint_eq_more (m1 m2 nz : Bool) (c1 s1 c2 s2 : Nat) (w : World) (hP : Pow10s w) (ms : Nat) (hs1 : s1 ≤ 19) (hs2 : s2 ≤ 19) (hc1 : c1 ≤ 9999999999999999999) (hc2 : c2 ≤ 9999999999999999999) (hsc : s1 = s2) (hsg : m1 ≠ m2) (hsum : ¬ c1 < c2)
    (sz cz : Nat) (Pv : Value → Prop) (hnf : ∀ W, Fresh w W → Calls Tryz.prog 123 #[.bool m1, .int .u64 (adf (c1) (c2) : Nat), .int .i64 s1, .int .i64 ms] W (DOut W nz sz cz Pv)) :
    Calls Tryz.prog 102 #[gd m1 s1 c1, gd m2 s2 c2, .int .i64 ms] w (DOut w nz sz cz Pv) := by
  subst hsc
  have t1 : decide ((s1 : Int) < (s1 : Int)) = false := by simp
  have t4 : (m1 == m2) = false := by simpa using hsg
  have t5 : decide ((c1 : Int) < (c2 : Int)) = false := by simp; omega
  have hsub := fun W => fsubAbs_any c1 c2 W hc1 hc2
  generalize adf c1 c2 = q at *
  have H_hsg := Lib.hid hsg
  clear hsg
  obtain ⟨g, hg⟩ : ∃ g, g = w.heap.size := ⟨_, rfl⟩
  have bx := boxes3 w #[.bool m1, .int .i8 s1, .int .u64 c1] #[.bool m2, .int .i8 s1, .int .u64 c2] #[.bool false, .int .i8 0, .int .u64 0] 62 62 62 g hg
  have H_bx := Lib.hid bx; clear bx
  have H_hP := Lib.hid hP; clear hP
  have H_hnf := Lib.hid hnf; clear hnf
  have H_hsub := Lib.hid hsub; clear hsub
  go_enter Tryz.func102, Tryz.ntmps102
  go_wp2_with (fail)
  generalize hw1 : ((w.alloc _).alloc _).alloc _ = w1
  rw [← hg]
  obtain ⟨r1, r2, r3, fa, _⟩ := H_bx.out w1 hw1
  have k0 := row_cell r1 0
  have k1 := row_cell r1 1
  have k2 := row_cell r1 2
  have k3 := row_cell r2 0
  have k4 := row_cell r2 1
  have k5 := row_cell r2 2
  simp at k0 k1 k2 k3 k4 k5
  have H_r1 := Lib.hid r1; clear r1
  have H_r2 := Lib.hid r2; clear r2
  have H_r3 := Lib.hid r3; clear r3
  have H_fa := Lib.hid fa; clear fa
  have H_hw1 := Lib.hid hw1; clear hw1
  have H_hg := Lib.hid hg; clear hg
  go_wp2_with (fail)
  refine (Scale_any m1 s1 c1 _ hs1).mono ?_
  rintro e w2 ⟨rfl, f2⟩
  have r1 := row_fresh H_r1.out f2
  have r2 := row_fresh H_r2.out f2
  have r3 := row_fresh H_r3.out f2
  have fa := fresh_trans H_fa.out f2
  clear H_r1 H_r2 H_r3 H_fa f2
  clear k0 k1 k2 k3 k4 k5
  have k0 := row_cell r1 0
  have k1 := row_cell r1 1
  have k2 := row_cell r1 2
  have k3 := row_cell r2 0
  have k4 := row_cell r2 1
  have k5 := row_cell r2 2
  simp at k0 k1 k2 k3 k4 k5
  have H_r1 := Lib.hid r1; clear r1
  have H_r2 := Lib.hid r2; clear r2
  have H_r3 := Lib.hid r3; clear r3
  have H_fa := Lib.hid fa; clear fa
  go_wp2_with (fail)
  refine (IsNeg_any m1 s1 c1 _).mono ?_
  rintro e w3 ⟨rfl, f3⟩
  have r1 := row_fresh H_r1.out f3
  have r2 := row_fresh H_r2.out f3
  have r3 := row_fresh H_r3.out f3
  have fa := fresh_trans H_fa.out f3
  clear H_r1 H_r2 H_r3 H_fa f3
  clear k0 k1 k2 k3 k4 k5
  have k0 := row_cell r1 0
  have k1 := row_cell r1 1
  have k2 := row_cell r1 2
  have k3 := row_cell r2 0
  have k4 := row_cell r2 1
  have k5 := row_cell r2 2
  simp at k0 k1 k2 k3 k4 k5
  have H_r1 := Lib.hid r1; clear r1
  have H_r2 := Lib.hid r2; clear r2
  have H_r3 := Lib.hid r3; clear r3
  have H_fa := Lib.hid fa; clear fa
  go_wp2_with (fail)
  refine (Scale_any m2 s1 c2 _ hs1).mono ?_
  rintro e w4 ⟨rfl, f4⟩
  have r1 := row_fresh H_r1.out f4
  have r2 := row_fresh H_r2.out f4
  have r3 := row_fresh H_r3.out f4
  have fa := fresh_trans H_fa.out f4
  clear H_r1 H_r2 H_r3 H_fa f4
  clear k0 k1 k2 k3 k4 k5
  have k0 := row_cell r1 0
  have k1 := row_cell r1 1
  have k2 := row_cell r1 2
  have k3 := row_cell r2 0
  have k4 := row_cell r2 1
  have k5 := row_cell r2 2
  simp at k0 k1 k2 k3 k4 k5
  have H_r1 := Lib.hid r1; clear r1
  have H_r2 := Lib.hid r2; clear r2
  have H_r3 := Lib.hid r3; clear r3
  have H_fa := Lib.hid fa; clear fa
  go_wp2_with (fail)
  refine (Scale_any m2 s1 c2 _ hs1).mono ?_
  rintro e w5 ⟨rfl, f5⟩
  have r1 := row_fresh H_r1.out f5
  have r2 := row_fresh H_r2.out f5
  have r3 := row_fresh H_r3.out f5
  have fa := fresh_trans H_fa.out f5
  clear H_r1 H_r2 H_r3 H_fa f5
  clear k0 k1 k2 k3 k4 k5
  have k0 := row_cell r1 0
  have k1 := row_cell r1 1
  have k2 := row_cell r1 2
  have k3 := row_cell r2 0
  have k4 := row_cell r2 1
  have k5 := row_cell r2 2
  simp at k0 k1 k2 k3 k4 k5
  have H_r1 := Lib.hid r1; clear r1
  have H_r2 := Lib.hid r2; clear r2
  have H_r3 := Lib.hid r3; clear r3
  have H_fa := Lib.hid fa; clear fa
  go_wp2_with (fail)
  refine (IsNeg_any m2 s1 c2 _).mono ?_
  rintro e w6 ⟨rfl, f6⟩
  have r1 := row_fresh H_r1.out f6
  have r2 := row_fresh H_r2.out f6
  have r3 := row_fresh H_r3.out f6
  have fa := fresh_trans H_fa.out f6
  clear H_r1 H_r2 H_r3 H_fa f6
  clear k0 k1 k2 k3 k4 k5
  have k0 := row_cell r1 0
  have k1 := row_cell r1 1
  have k2 := row_cell r1 2
  have k3 := row_cell r2 0
  have k4 := row_cell r2 1
  have k5 := row_cell r2 2
  simp at k0 k1 k2 k3 k4 k5
  have H_r1 := Lib.hid r1; clear r1
  have H_r2 := Lib.hid r2; clear r2
  have H_r3 := Lib.hid r3; clear r3
  have H_fa := Lib.hid fa; clear fa
  go_wp2_with (fail)
  refine (H_hsub.out _).mono ?_
  rintro e w7 ⟨rfl, hs⟩
  subst hs
  go_wp2_with (fail)
  refine (H_hnf.out _ H_fa.out).mono ?_
  rintro e w8 ⟨ev, rfl, hev, f9⟩
  have r3 := row_fresh H_r3.out f9
  have p0 := row_cell r3 0
  have p1 := row_cell r3 1
  have p2 := row_cell r3 2
  simp at p0 p1 p2
  have z0 : w8.frozen? ⟨g + 1 + 1, 0, none⟩ = false := frozen_of_row _ _ _ _ _ r3
  have z1 : w8.frozen? ⟨g + 1 + 1, 1, none⟩ = false := frozen_of_row _ _ _ _ _ r3
  have z2 : w8.frozen? ⟨g + 1 + 1, 2, none⟩ = false := frozen_of_row _ _ _ _ _ r3
  have fa := fresh_trans H_fa.out f9
  clear H_r3 H_fa f9 k0 k1 k2 k3 k4 k5
  have H_r3 := Lib.hid r3; clear r3
  have H_fa := Lib.hid fa; clear fa
  have H_hev := Lib.hid hev; clear hev
  go_wp2_with (fail)
  refine bodyPost_ret (results_cell_tmp_row rfl _ _ (g + 1 + 1) 62 #[.bool nz, .int .i8 sz, .int .u64 cz] (0, 0) _ rfl (row_set (row_set (row_set H_r3.out))) Tryz.underlying62 rfl (by kernel_rfl)) rfl ?_
  exact ⟨ev, rfl, H_hev.out, Fresh.set3 H_fa.out (by have := H_hg.out; omega)⟩

set_option maxRecDepth 20000 in
set_option maxHeartbeats 4000000 in
theorem addFint_lt_lshno (m1 m2 : Bool) (c1 s1 c2 s2 : Nat) (w : World) (hP : Pow10s w) (hE : ErrIs w) (ms : Nat) (hs1 : s1 ≤ 19) (hs2 : s2 ≤ 19) (hc1 : c1 ≤ 9999999999999999999) (_hc2 : c2 ≤ 9999999999999999999) (hsc : s1 < s2) (hfit : ¬ c1 * 10 ^ (s2 - s1) ≤ 9999999999999999999) :
    Calls Tryz.prog 102 #[gd m1 s1 c1, gd m2 s2 c2, .int .i64 ms] w (ClampErr w) := by
  have t1 : decide ((s2 : Int) < (s1 : Int)) = false := by simp; omega
  have t1n : ¬ s2 < s1 := by omega
  have t2 : decide ((s1 : Int) < (s2 : Int)) = true := by simp; omega
  have hlsh := fun W (hW : Fresh w W) => flsh_any c1 (s2 - s1) W (hP.fresh hW) hc1 (by omega)
  obtain ⟨k, hk⟩ : ∃ k, k = s2 - s1 := ⟨_, rfl⟩
  have hkI : (s2 : Int) - (s1 : Int) = (k : Int) := by omega
  have hkw : IntKind.i64.wrap (k : Int) = (k : Int) := wrap_nat k (by omega)
  rw [← hk] at hlsh hfit
  obtain ⟨b, hb⟩ : ∃ b, b = c1 * 10 ^ k := ⟨_, rfl⟩
  rw [← hb] at hlsh hfit
  have hm : mulTo b = .tuple #[.int .u64 0, .bool false] := by unfold mulTo; rw [if_neg hfit]
  rw [hm] at hlsh
  clear hm hb hk
  clear hfit
  obtain ⟨g, hg⟩ : ∃ g, g = w.heap.size := ⟨_, rfl⟩
  have bx := boxes3 w #[.bool m1, .int .i8 s1, .int .u64 c1] #[.bool m2, .int .i8 s2, .int .u64 c2] #[.bool false, .int .i8 0, .int .u64 0] 62 62 62 g hg
  have H_bx := Lib.hid bx; clear bx
  have H_hP := Lib.hid hP; clear hP
  have H_hE := Lib.hid hE; clear hE
  have H_hlsh := Lib.hid hlsh; clear hlsh
  go_enter Tryz.func102, Tryz.ntmps102
  go_wp2_with (fail)
  generalize hw1 : ((w.alloc _).alloc _).alloc _ = w1
  rw [← hg]
  obtain ⟨r1, r2, r3, fa, _⟩ := H_bx.out w1 hw1
  have k0 := row_cell r1 0
  have k1 := row_cell r1 1
  have k2 := row_cell r1 2
  have k3 := row_cell r2 0
  have k4 := row_cell r2 1
  have k5 := row_cell r2 2
  simp at k0 k1 k2 k3 k4 k5
  have H_r1 := Lib.hid r1; clear r1
  have H_r2 := Lib.hid r2; clear r2
  have H_r3 := Lib.hid r3; clear r3
  have H_fa := Lib.hid fa; clear fa
  have H_hw1 := Lib.hid hw1; clear hw1
  have H_hg := Lib.hid hg; clear hg
  go_wp2_with (fail)
  refine (Scale_any m1 s1 c1 _ hs1).mono ?_
  rintro e w2 ⟨rfl, f2⟩
  have r1 := row_fresh H_r1.out f2
  have r2 := row_fresh H_r2.out f2
  have r3 := row_fresh H_r3.out f2
  have fa := fresh_trans H_fa.out f2
  clear H_r1 H_r2 H_r3 H_fa f2
  clear k0 k1 k2 k3 k4 k5
  have k0 := row_cell r1 0
  have k1 := row_cell r1 1
  have k2 := row_cell r1 2
  have k3 := row_cell r2 0
  have k4 := row_cell r2 1
  have k5 := row_cell r2 2
  simp at k0 k1 k2 k3 k4 k5
  have H_r1 := Lib.hid r1; clear r1
  have H_r2 := Lib.hid r2; clear r2
  have H_r3 := Lib.hid r3; clear r3
  have H_fa := Lib.hid fa; clear fa
  go_wp2_with (fail)
  refine (IsNeg_any m1 s1 c1 _).mono ?_
  rintro e w3 ⟨rfl, f3⟩
  have r1 := row_fresh H_r1.out f3
  have r2 := row_fresh H_r2.out f3
  have r3 := row_fresh H_r3.out f3
  have fa := fresh_trans H_fa.out f3
  clear H_r1 H_r2 H_r3 H_fa f3
  clear k0 k1 k2 k3 k4 k5
  have k0 := row_cell r1 0
  have k1 := row_cell r1 1
  have k2 := row_cell r1 2
  have k3 := row_cell r2 0
  have k4 := row_cell r2 1
  have k5 := row_cell r2 2
  simp at k0 k1 k2 k3 k4 k5
  have H_r1 := Lib.hid r1; clear r1
  have H_r2 := Lib.hid r2; clear r2
  have H_r3 := Lib.hid r3; clear r3
  have H_fa := Lib.hid fa; clear fa
  go_wp2_with (fail)
  refine (Scale_any m2 s2 c2 _ hs2).mono ?_
  rintro e w4 ⟨rfl, f4⟩
  have r1 := row_fresh H_r1.out f4
  have r2 := row_fresh H_r2.out f4
  have r3 := row_fresh H_r3.out f4
  have fa := fresh_trans H_fa.out f4
  clear H_r1 H_r2 H_r3 H_fa f4
  clear k0 k1 k2 k3 k4 k5
  have k0 := row_cell r1 0
  have k1 := row_cell r1 1
  have k2 := row_cell r1 2
  have k3 := row_cell r2 0
  have k4 := row_cell r2 1
  have k5 := row_cell r2 2
  simp at k0 k1 k2 k3 k4 k5
  have H_r1 := Lib.hid r1; clear r1
  have H_r2 := Lib.hid r2; clear r2
  have H_r3 := Lib.hid r3; clear r3
  have H_fa := Lib.hid fa; clear fa
  go_wp2_with (fail)
  refine (Scale_any m2 s2 c2 _ hs2).mono ?_
  rintro e w5 ⟨rfl, f5⟩
  have r1 := row_fresh H_r1.out f5
  have r2 := row_fresh H_r2.out f5
  have r3 := row_fresh H_r3.out f5
  have fa := fresh_trans H_fa.out f5
  clear H_r1 H_r2 H_r3 H_fa f5
  clear k0 k1 k2 k3 k4 k5
  have k0 := row_cell r1 0
  have k1 := row_cell r1 1
  have k2 := row_cell r1 2
  have k3 := row_cell r2 0
  have k4 := row_cell r2 1
  have k5 := row_cell r2 2
  simp at k0 k1 k2 k3 k4 k5
  have H_r1 := Lib.hid r1; clear r1
  have H_r2 := Lib.hid r2; clear r2
  have H_r3 := Lib.hid r3; clear r3
  have H_fa := Lib.hid fa; clear fa
  go_wp2_with (fail)
  refine (Scale_any m2 s2 c2 _ hs2).mono ?_
  rintro e w6 ⟨rfl, f6⟩
  have r1 := row_fresh H_r1.out f6
  have r2 := row_fresh H_r2.out f6
  have r3 := row_fresh H_r3.out f6
  have fa := fresh_trans H_fa.out f6
  clear H_r1 H_r2 H_r3 H_fa f6
  clear k0 k1 k2 k3 k4 k5
  have k0 := row_cell r1 0
  have k1 := row_cell r1 1
  have k2 := row_cell r1 2
  have k3 := row_cell r2 0
  have k4 := row_cell r2 1
  have k5 := row_cell r2 2
  simp at k0 k1 k2 k3 k4 k5
  have H_r1 := Lib.hid r1; clear r1
  have H_r2 := Lib.hid r2; clear r2
  have H_r3 := Lib.hid r3; clear r3
  have H_fa := Lib.hid fa; clear fa
  go_wp2_with (fail)
  refine (H_hlsh.out _ H_fa.out).mono ?_
  rintro e w7 ⟨rfl, hs⟩
  subst hs
  go_wp2_with (fail)
  obtain ⟨ae, hae⟩ := H_hE.out.fresh H_fa.out
  have hne : 0 ≠ g + 1 + 1 := by
    obtain ⟨_, h0⟩ := H_hE.out
    have := ErrIs.lt h0
    have := H_hg.out
    omega
  have p0 := row_cell H_r3.out 0
  have p1 := row_cell H_r3.out 1
  have p2 := row_cell H_r3.out 2
  simp at p0 p1 p2
  have z0 : w7.frozen? ⟨g + 1 + 1, 0, none⟩ = false := frozen_of_row _ _ _ _ _ H_r3.out
  have z1 : w7.frozen? ⟨g + 1 + 1, 1, none⟩ = false := frozen_of_row _ _ _ _ _ H_r3.out
  have z2 : w7.frozen? ⟨g + 1 + 1, 2, none⟩ = false := frozen_of_row _ _ _ _ _ H_r3.out
  go_wp2_with (fail)
  go_region_held3 (fun (w' : World) => w'.cell? ⟨0, 0, none⟩ = some (.iface 115 (.pointer (some ae)))) (first | exact hae | exact far3 hne hae) (fail)
  go_wp2
  refine bodyPost_ret (results_cell_tmp_row rfl _ _ (g + 1 + 1) 62 #[.bool false, .int .i8 0, .int .u64 0] (0, 0) _ rfl (row_set (row_set (row_set H_r3.out))) Tryz.underlying62 rfl (by kernel_rfl)) rfl ?_
  exact ⟨ae, rfl, Fresh.set3 (H_fa.out.drewN 1) (by have := H_hg.out; omega)⟩

set_option maxRecDepth 20000 in
set_option maxHeartbeats 4000000 in
theorem addFint_lt_addno (m1 m2 : Bool) (c1 s1 c2 s2 : Nat) (w : World) (hP : Pow10s w) (hE : ErrIs w) (ms : Nat) (hs1 : s1 ≤ 19) (hs2 : s2 ≤ 19) (hc1 : c1 ≤ 9999999999999999999) (hc2 : c2 ≤ 9999999999999999999) (hsc : s1 < s2) (hfit : c1 * 10 ^ (s2 - s1) ≤ 9999999999999999999) (hsg : m1 = m2) (hsum : ¬ c1 * 10 ^ (s2 - s1) + c2 ≤ 9999999999999999999) :
    Calls Tryz.prog 102 #[gd m1 s1 c1, gd m2 s2 c2, .int .i64 ms] w (ClampErr w) := by
  have t1 : decide ((s2 : Int) < (s1 : Int)) = false := by simp; omega
  have t1n : ¬ s2 < s1 := by omega
  have t2 : decide ((s1 : Int) < (s2 : Int)) = true := by simp; omega
  have hlsh := fun W (hW : Fresh w W) => flsh_any c1 (s2 - s1) W (hP.fresh hW) hc1 (by omega)
  obtain ⟨k, hk⟩ : ∃ k, k = s2 - s1 := ⟨_, rfl⟩
  have hkI : (s2 : Int) - (s1 : Int) = (k : Int) := by omega
  have hkw : IntKind.i64.wrap (k : Int) = (k : Int) := wrap_nat k (by omega)
  rw [← hk] at hlsh hfit hsum
  obtain ⟨b, hb⟩ : ∃ b, b = c1 * 10 ^ k := ⟨_, rfl⟩
  rw [← hb] at hlsh hfit hsum
  have hm : mulTo b = .tuple #[.int .u64 b, .bool true] := by unfold mulTo; rw [if_pos hfit]
  rw [hm] at hlsh
  clear hm hb hk
  subst hsg
  have hadd := fun W => fadd_any b c2 W hfit hc2
  obtain ⟨q, hq⟩ : ∃ q, q = b + c2 := ⟨_, rfl⟩
  rw [← hq] at hadd hsum
  have hm2 : mulTo q = .tuple #[.int .u64 0, .bool false] := by unfold mulTo; rw [if_neg hsum]
  rw [hm2] at hadd
  clear hm2 hq hsum
  obtain ⟨g, hg⟩ : ∃ g, g = w.heap.size := ⟨_, rfl⟩
  have bx := boxes3 w #[.bool m1, .int .i8 s1, .int .u64 c1] #[.bool m1, .int .i8 s2, .int .u64 c2] #[.bool false, .int .i8 0, .int .u64 0] 62 62 62 g hg
  have H_bx := Lib.hid bx; clear bx
  have H_hP := Lib.hid hP; clear hP
  have H_hE := Lib.hid hE; clear hE
  have H_hlsh := Lib.hid hlsh; clear hlsh
  have H_hadd := Lib.hid hadd; clear hadd
  go_enter Tryz.func102, Tryz.ntmps102
  go_wp2_with (fail)
  generalize hw1 : ((w.alloc _).alloc _).alloc _ = w1
  rw [← hg]
  obtain ⟨r1, r2, r3, fa, _⟩ := H_bx.out w1 hw1
  have k0 := row_cell r1 0
  have k1 := row_cell r1 1
  have k2 := row_cell r1 2
  have k3 := row_cell r2 0
  have k4 := row_cell r2 1
  have k5 := row_cell r2 2
  simp at k0 k1 k2 k3 k4 k5
  have H_r1 := Lib.hid r1; clear r1
  have H_r2 := Lib.hid r2; clear r2
  have H_r3 := Lib.hid r3; clear r3
  have H_fa := Lib.hid fa; clear fa
  have H_hw1 := Lib.hid hw1; clear hw1
  have H_hg := Lib.hid hg; clear hg
  go_wp2_with (fail)
  refine (Scale_any m1 s1 c1 _ hs1).mono ?_
  rintro e w2 ⟨rfl, f2⟩
  have r1 := row_fresh H_r1.out f2
  have r2 := row_fresh H_r2.out f2
  have r3 := row_fresh H_r3.out f2
  have fa := fresh_trans H_fa.out f2
  clear H_r1 H_r2 H_r3 H_fa f2
  clear k0 k1 k2 k3 k4 k5
  have k0 := row_cell r1 0
  have k1 := row_cell r1 1
  have k2 := row_cell r1 2
  have k3 := row_cell r2 0
  have k4 := row_cell r2 1
  have k5 := row_cell r2 2
  simp at k0 k1 k2 k3 k4 k5
  have H_r1 := Lib.hid r1; clear r1
  have H_r2 := Lib.hid r2; clear r2
  have H_r3 := Lib.hid r3; clear r3
  have H_fa := Lib.hid fa; clear fa
  go_wp2_with (fail)
  refine (IsNeg_any m1 s1 c1 _).mono ?_
  rintro e w3 ⟨rfl, f3⟩
  have r1 := row_fresh H_r1.out f3
  have r2 := row_fresh H_r2.out f3
  have r3 := row_fresh H_r3.out f3
  have fa := fresh_trans H_fa.out f3
  clear H_r1 H_r2 H_r3 H_fa f3
  clear k0 k1 k2 k3 k4 k5
  have k0 := row_cell r1 0
  have k1 := row_cell r1 1
  have k2 := row_cell r1 2
  have k3 := row_cell r2 0
  have k4 := row_cell r2 1
  have k5 := row_cell r2 2
  simp at k0 k1 k2 k3 k4 k5
  have H_r1 := Lib.hid r1; clear r1
  have H_r2 := Lib.hid r2; clear r2
  have H_r3 := Lib.hid r3; clear r3
  have H_fa := Lib.hid fa; clear fa
  go_wp2_with (fail)
  refine (Scale_any m1 s2 c2 _ hs2).mono ?_
  rintro e w4 ⟨rfl, f4⟩
  have r1 := row_fresh H_r1.out f4
  have r2 := row_fresh H_r2.out f4
  have r3 := row_fresh H_r3.out f4
  have fa := fresh_trans H_fa.out f4
  clear H_r1 H_r2 H_r3 H_fa f4
  clear k0 k1 k2 k3 k4 k5
  have k0 := row_cell r1 0
  have k1 := row_cell r1 1
  have k2 := row_cell r1 2
  have k3 := row_cell r2 0
  have k4 := row_cell r2 1
  have k5 := row_cell r2 2
  simp at k0 k1 k2 k3 k4 k5
  have H_r1 := Lib.hid r1; clear r1
  have H_r2 := Lib.hid r2; clear r2
  have H_r3 := Lib.hid r3; clear r3
  have H_fa := Lib.hid fa; clear fa
  go_wp2_with (fail)
  refine (Scale_any m1 s2 c2 _ hs2).mono ?_
  rintro e w5 ⟨rfl, f5⟩
  have r1 := row_fresh H_r1.out f5
  have r2 := row_fresh H_r2.out f5
  have r3 := row_fresh H_r3.out f5
  have fa := fresh_trans H_fa.out f5
  clear H_r1 H_r2 H_r3 H_fa f5
  clear k0 k1 k2 k3 k4 k5
  have k0 := row_cell r1 0
  have k1 := row_cell r1 1
  have k2 := row_cell r1 2
  have k3 := row_cell r2 0
  have k4 := row_cell r2 1
  have k5 := row_cell r2 2
  simp at k0 k1 k2 k3 k4 k5
  have H_r1 := Lib.hid r1; clear r1
  have H_r2 := Lib.hid r2; clear r2
  have H_r3 := Lib.hid r3; clear r3
  have H_fa := Lib.hid fa; clear fa
  go_wp2_with (fail)
  refine (Scale_any m1 s2 c2 _ hs2).mono ?_
  rintro e w6 ⟨rfl, f6⟩
  have r1 := row_fresh H_r1.out f6
  have r2 := row_fresh H_r2.out f6
  have r3 := row_fresh H_r3.out f6
  have fa := fresh_trans H_fa.out f6
  clear H_r1 H_r2 H_r3 H_fa f6
  clear k0 k1 k2 k3 k4 k5
  have k0 := row_cell r1 0
  have k1 := row_cell r1 1
  have k2 := row_cell r1 2
  have k3 := row_cell r2 0
  have k4 := row_cell r2 1
  have k5 := row_cell r2 2
  simp at k0 k1 k2 k3 k4 k5
  have H_r1 := Lib.hid r1; clear r1
  have H_r2 := Lib.hid r2; clear r2
  have H_r3 := Lib.hid r3; clear r3
  have H_fa := Lib.hid fa; clear fa
  go_wp2_with (fail)
  refine (H_hlsh.out _ H_fa.out).mono ?_
  rintro e w7 ⟨rfl, hs⟩
  subst hs
  go_wp2_with (fail)
  refine (Scale_any m1 s2 c2 _ hs2).mono ?_
  rintro e w8 ⟨rfl, f8⟩
  have r1 := row_fresh H_r1.out f8
  have r2 := row_fresh H_r2.out f8
  have r3 := row_fresh H_r3.out f8
  have fa := fresh_trans H_fa.out f8
  clear H_r1 H_r2 H_r3 H_fa f8
  clear k0 k1 k2 k3 k4 k5
  have k0 := row_cell r1 0
  have k1 := row_cell r1 1
  have k2 := row_cell r1 2
  have k3 := row_cell r2 0
  have k4 := row_cell r2 1
  have k5 := row_cell r2 2
  simp at k0 k1 k2 k3 k4 k5
  have H_r1 := Lib.hid r1; clear r1
  have H_r2 := Lib.hid r2; clear r2
  have H_r3 := Lib.hid r3; clear r3
  have H_fa := Lib.hid fa; clear fa
  go_wp2_with (fail)
  refine (IsNeg_any m1 s2 c2 _).mono ?_
  rintro e w9 ⟨rfl, f9⟩
  have r1 := row_fresh H_r1.out f9
  have r2 := row_fresh H_r2.out f9
  have r3 := row_fresh H_r3.out f9
  have fa := fresh_trans H_fa.out f9
  clear H_r1 H_r2 H_r3 H_fa f9
  clear k0 k1 k2 k3 k4 k5
  have k0 := row_cell r1 0
  have k1 := row_cell r1 1
  have k2 := row_cell r1 2
  have k3 := row_cell r2 0
  have k4 := row_cell r2 1
  have k5 := row_cell r2 2
  simp at k0 k1 k2 k3 k4 k5
  have H_r1 := Lib.hid r1; clear r1
  have H_r2 := Lib.hid r2; clear r2
  have H_r3 := Lib.hid r3; clear r3
  have H_fa := Lib.hid fa; clear fa
  go_wp2_with (fail)
  refine (H_hadd.out _).mono ?_
  rintro e w10 ⟨rfl, hs⟩
  subst hs
  go_wp2_with (fail)
  obtain ⟨ae, hae⟩ := H_hE.out.fresh H_fa.out
  have hne : 0 ≠ g + 1 + 1 := by
    obtain ⟨_, h0⟩ := H_hE.out
    have := ErrIs.lt h0
    have := H_hg.out
    omega
  have p0 := row_cell H_r3.out 0
  have p1 := row_cell H_r3.out 1
  have p2 := row_cell H_r3.out 2
  simp at p0 p1 p2
  have z0 : w10.frozen? ⟨g + 1 + 1, 0, none⟩ = false := frozen_of_row _ _ _ _ _ H_r3.out
  have z1 : w10.frozen? ⟨g + 1 + 1, 1, none⟩ = false := frozen_of_row _ _ _ _ _ H_r3.out
  have z2 : w10.frozen? ⟨g + 1 + 1, 2, none⟩ = false := frozen_of_row _ _ _ _ _ H_r3.out
  go_wp2_with (fail)
  go_region_held3 (fun (w' : World) => w'.cell? ⟨0, 0, none⟩ = some (.iface 115 (.pointer (some ae)))) (first | exact hae | exact far3 hne hae) (fail)
  go_wp2
  refine bodyPost_ret (results_cell_tmp_row rfl _ _ (g + 1 + 1) 62 #[.bool false, .int .i8 0, .int .u64 0] (0, 0) _ rfl (row_set (row_set (row_set H_r3.out))) Tryz.underlying62 rfl (by kernel_rfl)) rfl ?_
  exact ⟨ae, rfl, Fresh.set3 (H_fa.out.drewN 1) (by have := H_hg.out; omega)⟩

set_option maxRecDepth 20000 in
set_option maxHeartbeats 4000000 in
theorem addFint_lt_same (m1 m2 nz : Bool) (c1 s1 c2 s2 : Nat) (w : World) (hP : Pow10s w) (ms : Nat) (hs1 : s1 ≤ 19) (hs2 : s2 ≤ 19) (hc1 : c1 ≤ 9999999999999999999) (hc2 : c2 ≤ 9999999999999999999) (hsc : s1 < s2) (hfit : c1 * 10 ^ (s2 - s1) ≤ 9999999999999999999) (hsg : m1 = m2) (hsum : c1 * 10 ^ (s2 - s1) + c2 ≤ 9999999999999999999)
    (sz cz : Nat) (Pv : Value → Prop) (hnf : ∀ W, Fresh w W → Calls Tryz.prog 123 #[.bool m1, .int .u64 (c1 * 10 ^ (s2 - s1) + c2 : Nat), .int .i64 s2, .int .i64 ms] W (DOut W nz sz cz Pv)) :
    Calls Tryz.prog 102 #[gd m1 s1 c1, gd m2 s2 c2, .int .i64 ms] w (DOut w nz sz cz Pv) := by
  have t1 : decide ((s2 : Int) < (s1 : Int)) = false := by simp; omega
  have t1n : ¬ s2 < s1 := by omega
  have t2 : decide ((s1 : Int) < (s2 : Int)) = true := by simp; omega
  have hlsh := fun W (hW : Fresh w W) => flsh_any c1 (s2 - s1) W (hP.fresh hW) hc1 (by omega)
  obtain ⟨k, hk⟩ : ∃ k, k = s2 - s1 := ⟨_, rfl⟩
  have hkI : (s2 : Int) - (s1 : Int) = (k : Int) := by omega
  have hkw : IntKind.i64.wrap (k : Int) = (k : Int) := wrap_nat k (by omega)
  rw [← hk] at hlsh hfit hsum hnf
  obtain ⟨b, hb⟩ : ∃ b, b = c1 * 10 ^ k := ⟨_, rfl⟩
  rw [← hb] at hlsh hfit hsum hnf
  have hm : mulTo b = .tuple #[.int .u64 b, .bool true] := by unfold mulTo; rw [if_pos hfit]
  rw [hm] at hlsh
  clear hm hb hk
  subst hsg
  have hadd := fun W => fadd_any b c2 W hfit hc2
  obtain ⟨q, hq⟩ : ∃ q, q = b + c2 := ⟨_, rfl⟩
  rw [← hq] at hadd hsum hnf
  have hm2 : mulTo q = .tuple #[.int .u64 q, .bool true] := by unfold mulTo; rw [if_pos hsum]
  rw [hm2] at hadd
  clear hm2 hq hsum
  obtain ⟨g, hg⟩ : ∃ g, g = w.heap.size := ⟨_, rfl⟩
  have bx := boxes3 w #[.bool m1, .int .i8 s1, .int .u64 c1] #[.bool m1, .int .i8 s2, .int .u64 c2] #[.bool false, .int .i8 0, .int .u64 0] 62 62 62 g hg
  have H_bx := Lib.hid bx; clear bx
  have H_hP := Lib.hid hP; clear hP
  have H_hnf := Lib.hid hnf; clear hnf
  have H_hlsh := Lib.hid hlsh; clear hlsh
  have H_hadd := Lib.hid hadd; clear hadd
  go_enter Tryz.func102, Tryz.ntmps102
  go_wp2_with (fail)
  generalize hw1 : ((w.alloc _).alloc _).alloc _ = w1
  rw [← hg]
  obtain ⟨r1, r2, r3, fa, _⟩ := H_bx.out w1 hw1
  have k0 := row_cell r1 0
  have k1 := row_cell r1 1
  have k2 := row_cell r1 2
  have k3 := row_cell r2 0
  have k4 := row_cell r2 1
  have k5 := row_cell r2 2
  simp at k0 k1 k2 k3 k4 k5
  have H_r1 := Lib.hid r1; clear r1
  have H_r2 := Lib.hid r2; clear r2
  have H_r3 := Lib.hid r3; clear r3
  have H_fa := Lib.hid fa; clear fa
  have H_hw1 := Lib.hid hw1; clear hw1
  have H_hg := Lib.hid hg; clear hg
  go_wp2_with (fail)
  refine (Scale_any m1 s1 c1 _ hs1).mono ?_
  rintro e w2 ⟨rfl, f2⟩
  have r1 := row_fresh H_r1.out f2
  have r2 := row_fresh H_r2.out f2
  have r3 := row_fresh H_r3.out f2
  have fa := fresh_trans H_fa.out f2
  clear H_r1 H_r2 H_r3 H_fa f2
  clear k0 k1 k2 k3 k4 k5
  have k0 := row_cell r1 0
  have k1 := row_cell r1 1
  have k2 := row_cell r1 2
  have k3 := row_cell r2 0
  have k4 := row_cell r2 1
  have k5 := row_cell r2 2
  simp at k0 k1 k2 k3 k4 k5
  have H_r1 := Lib.hid r1; clear r1
  have H_r2 := Lib.hid r2; clear r2
  have H_r3 := Lib.hid r3; clear r3
  have H_fa := Lib.hid fa; clear fa
  go_wp2_with (fail)
  refine (IsNeg_any m1 s1 c1 _).mono ?_
  rintro e w3 ⟨rfl, f3⟩
  have r1 := row_fresh H_r1.out f3
  have r2 := row_fresh H_r2.out f3
  have r3 := row_fresh H_r3.out f3
  have fa := fresh_trans H_fa.out f3
  clear H_r1 H_r2 H_r3 H_fa f3
  clear k0 k1 k2 k3 k4 k5
  have k0 := row_cell r1 0
  have k1 := row_cell r1 1
  have k2 := row_cell r1 2
  have k3 := row_cell r2 0
  have k4 := row_cell r2 1
  have k5 := row_cell r2 2
  simp at k0 k1 k2 k3 k4 k5
  have H_r1 := Lib.hid r1; clear r1
  have H_r2 := Lib.hid r2; clear r2
  have H_r3 := Lib.hid r3; clear r3
  have H_fa := Lib.hid fa; clear fa
  go_wp2_with (fail)
  refine (Scale_any m1 s2 c2 _ hs2).mono ?_
  rintro e w4 ⟨rfl, f4⟩
  have r1 := row_fresh H_r1.out f4
  have r2 := row_fresh H_r2.out f4
  have r3 := row_fresh H_r3.out f4
  have fa := fresh_trans H_fa.out f4
  clear H_r1 H_r2 H_r3 H_fa f4
  clear k0 k1 k2 k3 k4 k5
  have k0 := row_cell r1 0
  have k1 := row_cell r1 1
  have k2 := row_cell r1 2
  have k3 := row_cell r2 0
  have k4 := row_cell r2 1
  have k5 := row_cell r2 2
  simp at k0 k1 k2 k3 k4 k5
  have H_r1 := Lib.hid r1; clear r1
  have H_r2 := Lib.hid r2; clear r2
  have H_r3 := Lib.hid r3; clear r3
  have H_fa := Lib.hid fa; clear fa
  go_wp2_with (fail)
  refine (Scale_any m1 s2 c2 _ hs2).mono ?_
  rintro e w5 ⟨rfl, f5⟩
  have r1 := row_fresh H_r1.out f5
  have r2 := row_fresh H_r2.out f5
  have r3 := row_fresh H_r3.out f5
  have fa := fresh_trans H_fa.out f5
  clear H_r1 H_r2 H_r3 H_fa f5
  clear k0 k1 k2 k3 k4 k5
  have k0 := row_cell r1 0
  have k1 := row_cell r1 1
  have k2 := row_cell r1 2
  have k3 := row_cell r2 0
  have k4 := row_cell r2 1
  have k5 := row_cell r2 2
  simp at k0 k1 k2 k3 k4 k5
  have H_r1 := Lib.hid r1; clear r1
  have H_r2 := Lib.hid r2; clear r2
  have H_r3 := Lib.hid r3; clear r3
  have H_fa := Lib.hid fa; clear fa
  go_wp2_with (fail)
  refine (Scale_any m1 s2 c2 _ hs2).mono ?_
  rintro e w6 ⟨rfl, f6⟩
  have r1 := row_fresh H_r1.out f6
  have r2 := row_fresh H_r2.out f6
  have r3 := row_fresh H_r3.out f6
  have fa := fresh_trans H_fa.out f6
  clear H_r1 H_r2 H_r3 H_fa f6
  clear k0 k1 k2 k3 k4 k5
  have k0 := row_cell r1 0
  have k1 := row_cell r1 1
  have k2 := row_cell r1 2
  have k3 := row_cell r2 0
  have k4 := row_cell r2 1
  have k5 := row_cell r2 2
  simp at k0 k1 k2 k3 k4 k5
  have H_r1 := Lib.hid r1; clear r1
  have H_r2 := Lib.hid r2; clear r2
  have H_r3 := Lib.hid r3; clear r3
  have H_fa := Lib.hid fa; clear fa
  go_wp2_with (fail)
  refine (H_hlsh.out _ H_fa.out).mono ?_
  rintro e w7 ⟨rfl, hs⟩
  subst hs
  go_wp2_with (fail)
  refine (Scale_any m1 s2 c2 _ hs2).mono ?_
  rintro e w8 ⟨rfl, f8⟩
  have r1 := row_fresh H_r1.out f8
  have r2 := row_fresh H_r2.out f8
  have r3 := row_fresh H_r3.out f8
  have fa := fresh_trans H_fa.out f8
  clear H_r1 H_r2 H_r3 H_fa f8
  clear k0 k1 k2 k3 k4 k5
  have k0 := row_cell r1 0
  have k1 := row_cell r1 1
  have k2 := row_cell r1 2
  have k3 := row_cell r2 0
  have k4 := row_cell r2 1
  have k5 := row_cell r2 2
  simp at k0 k1 k2 k3 k4 k5
  have H_r1 := Lib.hid r1; clear r1
  have H_r2 := Lib.hid r2; clear r2
  have H_r3 := Lib.hid r3; clear r3
  have H_fa := Lib.hid fa; clear fa
  go_wp2_with (fail)
  refine (IsNeg_any m1 s2 c2 _).mono ?_
  rintro e w9 ⟨rfl, f9⟩
  have r1 := row_fresh H_r1.out f9
  have r2 := row_fresh H_r2.out f9
  have r3 := row_fresh H_r3.out f9
  have fa := fresh_trans H_fa.out f9
  clear H_r1 H_r2 H_r3 H_fa f9
  clear k0 k1 k2 k3 k4 k5
  have k0 := row_cell r1 0
  have k1 := row_cell r1 1
  have k2 := row_cell r1 2
  have k3 := row_cell r2 0
  have k4 := row_cell r2 1
  have k5 := row_cell r2 2
  simp at k0 k1 k2 k3 k4 k5
  have H_r1 := Lib.hid r1; clear r1
  have H_r2 := Lib.hid r2; clear r2
  have H_r3 := Lib.hid r3; clear r3
  have H_fa := Lib.hid fa; clear fa
  go_wp2_with (fail)
  refine (H_hadd.out _).mono ?_
  rintro e w10 ⟨rfl, hs⟩
  subst hs
  go_wp2_with (fail)
  refine (H_hnf.out _ H_fa.out).mono ?_
  rintro e w11 ⟨ev, rfl, hev, f9⟩
  have r3 := row_fresh H_r3.out f9
  have p0 := row_cell r3 0
  have p1 := row_cell r3 1
  have p2 := row_cell r3 2
  simp at p0 p1 p2
  have z0 : w11.frozen? ⟨g + 1 + 1, 0, none⟩ = false := frozen_of_row _ _ _ _ _ r3
  have z1 : w11.frozen? ⟨g + 1 + 1, 1, none⟩ = false := frozen_of_row _ _ _ _ _ r3
  have z2 : w11.frozen? ⟨g + 1 + 1, 2, none⟩ = false := frozen_of_row _ _ _ _ _ r3
  have fa := fresh_trans H_fa.out f9
  clear H_r3 H_fa f9 k0 k1 k2 k3 k4 k5
  have H_r3 := Lib.hid r3; clear r3
  have H_fa := Lib.hid fa; clear fa
  have H_hev := Lib.hid hev; clear hev
  go_wp2_with (fail)
  refine bodyPost_ret (results_cell_tmp_row rfl _ _ (g + 1 + 1) 62 #[.bool nz, .int .i8 sz, .int .u64 cz] (0, 0) _ rfl (row_set (row_set (row_set H_r3.out))) Tryz.underlying62 rfl (by kernel_rfl)) rfl ?_
  exact ⟨ev, rfl, H_hev.out, Fresh.set3 H_fa.out (by have := H_hg.out; omega)⟩

set_option maxRecDepth 20000 in
set_option maxHeartbeats 4000000 in
theorem addFint_lt_less (m1 m2 nz : Bool) (c1 s1 c2 s2 : Nat) (w : World) (hP : Pow10s w) (ms : Nat) (hs1 : s1 ≤ 19) (hs2 : s2 ≤ 19) (hc1 : c1 ≤ 9999999999999999999) (hc2 : c2 ≤ 9999999999999999999) (hsc : s1 < s2) (hfit : c1 * 10 ^ (s2 - s1) ≤ 9999999999999999999) (hsg : m1 ≠ m2) (hsum : c1 * 10 ^ (s2 - s1) < c2)
    (sz cz : Nat) (Pv : Value → Prop) (hnf : ∀ W, Fresh w W → Calls Tryz.prog 123 #[.bool m2, .int .u64 (adf (c1 * 10 ^ (s2 - s1)) (c2) : Nat), .int .i64 s2, .int .i64 ms] W (DOut W nz sz cz Pv)) :
    Calls Tryz.prog 102 #[gd m1 s1 c1, gd m2 s2 c2, .int .i64 ms] w (DOut w nz sz cz Pv) := by
  have t1 : decide ((s2 : Int) < (s1 : Int)) = false := by simp; omega
  have t1n : ¬ s2 < s1 := by omega
  have t2 : decide ((s1 : Int) < (s2 : Int)) = true := by simp; omega
  have hlsh := fun W (hW : Fresh w W) => flsh_any c1 (s2 - s1) W (hP.fresh hW) hc1 (by omega)
  obtain ⟨k, hk⟩ : ∃ k, k = s2 - s1 := ⟨_, rfl⟩
  have hkI : (s2 : Int) - (s1 : Int) = (k : Int) := by omega
  have hkw : IntKind.i64.wrap (k : Int) = (k : Int) := wrap_nat k (by omega)
  rw [← hk] at hlsh hfit hsum hnf
  obtain ⟨b, hb⟩ : ∃ b, b = c1 * 10 ^ k := ⟨_, rfl⟩
  rw [← hb] at hlsh hfit hsum hnf
  have hm : mulTo b = .tuple #[.int .u64 b, .bool true] := by unfold mulTo; rw [if_pos hfit]
  rw [hm] at hlsh
  clear hm hb hk
  have t4 : (m1 == m2) = false := by simpa using hsg
  have t5 : decide ((b : Int) < (c2 : Int)) = true := by simp; omega
  have hsub := fun W => fsubAbs_any b c2 W hfit hc2
  generalize adf b c2 = q at *
  have H_hsg := Lib.hid hsg
  clear hsg
  obtain ⟨g, hg⟩ : ∃ g, g = w.heap.size := ⟨_, rfl⟩
  have bx := boxes3 w #[.bool m1, .int .i8 s1, .int .u64 c1] #[.bool m2, .int .i8 s2, .int .u64 c2] #[.bool false, .int .i8 0, .int .u64 0] 62 62 62 g hg
  have H_bx := Lib.hid bx; clear bx
  have H_hP := Lib.hid hP; clear hP
  have H_hnf := Lib.hid hnf; clear hnf
  have H_hlsh := Lib.hid hlsh; clear hlsh
  have H_hsub := Lib.hid hsub; clear hsub
  go_enter Tryz.func102, Tryz.ntmps102
  go_wp2_with (fail)
  generalize hw1 : ((w.alloc _).alloc _).alloc _ = w1
  rw [← hg]
  obtain ⟨r1, r2, r3, fa, _⟩ := H_bx.out w1 hw1
  have k0 := row_cell r1 0
  have k1 := row_cell r1 1
  have k2 := row_cell r1 2
  have k3 := row_cell r2 0
  have k4 := row_cell r2 1
  have k5 := row_cell r2 2
  simp at k0 k1 k2 k3 k4 k5
  have H_r1 := Lib.hid r1; clear r1
  have H_r2 := Lib.hid r2; clear r2
  have H_r3 := Lib.hid r3; clear r3
  have H_fa := Lib.hid fa; clear fa
  have H_hw1 := Lib.hid hw1; clear hw1
  have H_hg := Lib.hid hg; clear hg
  go_wp2_with (fail)
  refine (Scale_any m1 s1 c1 _ hs1).mono ?_
  rintro e w2 ⟨rfl, f2⟩
  have r1 := row_fresh H_r1.out f2
  have r2 := row_fresh H_r2.out f2
  have r3 := row_fresh H_r3.out f2
  have fa := fresh_trans H_fa.out f2
  clear H_r1 H_r2 H_r3 H_fa f2
  clear k0 k1 k2 k3 k4 k5
  have k0 := row_cell r1 0
  have k1 := row_cell r1 1
  have k2 := row_cell r1 2
  have k3 := row_cell r2 0
  have k4 := row_cell r2 1
  have k5 := row_cell r2 2
  simp at k0 k1 k2 k3 k4 k5
  have H_r1 := Lib.hid r1; clear r1
  have H_r2 := Lib.hid r2; clear r2
  have H_r3 := Lib.hid r3; clear r3
  have H_fa := Lib.hid fa; clear fa
  go_wp2_with (fail)
  refine (IsNeg_any m1 s1 c1 _).mono ?_
  rintro e w3 ⟨rfl, f3⟩
  have r1 := row_fresh H_r1.out f3
  have r2 := row_fresh H_r2.out f3
  have r3 := row_fresh H_r3.out f3
  have fa := fresh_trans H_fa.out f3
  clear H_r1 H_r2 H_r3 H_fa f3
  clear k0 k1 k2 k3 k4 k5
  have k0 := row_cell r1 0
  have k1 := row_cell r1 1
  have k2 := row_cell r1 2
  have k3 := row_cell r2 0
  have k4 := row_cell r2 1
  have k5 := row_cell r2 2
  simp at k0 k1 k2 k3 k4 k5
  have H_r1 := Lib.hid r1; clear r1
  have H_r2 := Lib.hid r2; clear r2
  have H_r3 := Lib.hid r3; clear r3
  have H_fa := Lib.hid fa; clear fa
  go_wp2_with (fail)
  refine (Scale_any m2 s2 c2 _ hs2).mono ?_
  rintro e w4 ⟨rfl, f4⟩
  have r1 := row_fresh H_r1.out f4
  have r2 := row_fresh H_r2.out f4
  have r3 := row_fresh H_r3.out f4
  have fa := fresh_trans H_fa.out f4
  clear H_r1 H_r2 H_r3 H_fa f4
  clear k0 k1 k2 k3 k4 k5
  have k0 := row_cell r1 0
  have k1 := row_cell r1 1
  have k2 := row_cell r1 2
  have k3 := row_cell r2 0
  have k4 := row_cell r2 1
  have k5 := row_cell r2 2
  simp at k0 k1 k2 k3 k4 k5
  have H_r1 := Lib.hid r1; clear r1
  have H_r2 := Lib.hid r2; clear r2
  have H_r3 := Lib.hid r3; clear r3
  have H_fa := Lib.hid fa; clear fa
  go_wp2_with (fail)
  refine (Scale_any m2 s2 c2 _ hs2).mono ?_
  rintro e w5 ⟨rfl, f5⟩
  have r1 := row_fresh H_r1.out f5
  have r2 := row_fresh H_r2.out f5
  have r3 := row_fresh H_r3.out f5
  have fa := fresh_trans H_fa.out f5
  clear H_r1 H_r2 H_r3 H_fa f5
  clear k0 k1 k2 k3 k4 k5
  have k0 := row_cell r1 0
  have k1 := row_cell r1 1
  have k2 := row_cell r1 2
  have k3 := row_cell r2 0
  have k4 := row_cell r2 1
  have k5 := row_cell r2 2
  simp at k0 k1 k2 k3 k4 k5
  have H_r1 := Lib.hid r1; clear r1
  have H_r2 := Lib.hid r2; clear r2
  have H_r3 := Lib.hid r3; clear r3
  have H_fa := Lib.hid fa; clear fa
  go_wp2_with (fail)
  refine (Scale_any m2 s2 c2 _ hs2).mono ?_
  rintro e w6 ⟨rfl, f6⟩
  have r1 := row_fresh H_r1.out f6
  have r2 := row_fresh H_r2.out f6
  have r3 := row_fresh H_r3.out f6
  have fa := fresh_trans H_fa.out f6
  clear H_r1 H_r2 H_r3 H_fa f6
  clear k0 k1 k2 k3 k4 k5
  have k0 := row_cell r1 0
  have k1 := row_cell r1 1
  have k2 := row_cell r1 2
  have k3 := row_cell r2 0
  have k4 := row_cell r2 1
  have k5 := row_cell r2 2
  simp at k0 k1 k2 k3 k4 k5
  have H_r1 := Lib.hid r1; clear r1
  have H_r2 := Lib.hid r2; clear r2
  have H_r3 := Lib.hid r3; clear r3
  have H_fa := Lib.hid fa; clear fa
  go_wp2_with (fail)
  refine (H_hlsh.out _ H_fa.out).mono ?_
  rintro e w7 ⟨rfl, hs⟩
  subst hs
  go_wp2_with (fail)
  refine (Scale_any m2 s2 c2 _ hs2).mono ?_
  rintro e w8 ⟨rfl, f8⟩
  have r1 := row_fresh H_r1.out f8
  have r2 := row_fresh H_r2.out f8
  have r3 := row_fresh H_r3.out f8
  have fa := fresh_trans H_fa.out f8
  clear H_r1 H_r2 H_r3 H_fa f8
  clear k0 k1 k2 k3 k4 k5
  have k0 := row_cell r1 0
  have k1 := row_cell r1 1
  have k2 := row_cell r1 2
  have k3 := row_cell r2 0
  have k4 := row_cell r2 1
  have k5 := row_cell r2 2
  simp at k0 k1 k2 k3 k4 k5
  have H_r1 := Lib.hid r1; clear r1
  have H_r2 := Lib.hid r2; clear r2
  have H_r3 := Lib.hid r3; clear r3
  have H_fa := Lib.hid fa; clear fa
  go_wp2_with (fail)
  refine (IsNeg_any m2 s2 c2 _).mono ?_
  rintro e w9 ⟨rfl, f9⟩
  have r1 := row_fresh H_r1.out f9
  have r2 := row_fresh H_r2.out f9
  have r3 := row_fresh H_r3.out f9
  have fa := fresh_trans H_fa.out f9
  clear H_r1 H_r2 H_r3 H_fa f9
  clear k0 k1 k2 k3 k4 k5
  have k0 := row_cell r1 0
  have k1 := row_cell r1 1
  have k2 := row_cell r1 2
  have k3 := row_cell r2 0
  have k4 := row_cell r2 1
  have k5 := row_cell r2 2
  simp at k0 k1 k2 k3 k4 k5
  have H_r1 := Lib.hid r1; clear r1
  have H_r2 := Lib.hid r2; clear r2
  have H_r3 := Lib.hid r3; clear r3
  have H_fa := Lib.hid fa; clear fa
  go_wp2_with (fail)
  refine (IsNeg_any m2 s2 c2 _).mono ?_
  rintro e w10 ⟨rfl, f10⟩
  have r1 := row_fresh H_r1.out f10
  have r2 := row_fresh H_r2.out f10
  have r3 := row_fresh H_r3.out f10
  have fa := fresh_trans H_fa.out f10
  clear H_r1 H_r2 H_r3 H_fa f10
  clear k0 k1 k2 k3 k4 k5
  have k0 := row_cell r1 0
  have k1 := row_cell r1 1
  have k2 := row_cell r1 2
  have k3 := row_cell r2 0
  have k4 := row_cell r2 1
  have k5 := row_cell r2 2
  simp at k0 k1 k2 k3 k4 k5
  have H_r1 := Lib.hid r1; clear r1
  have H_r2 := Lib.hid r2; clear r2
  have H_r3 := Lib.hid r3; clear r3
  have H_fa := Lib.hid fa; clear fa
  go_wp2_with (fail)
  refine (H_hsub.out _).mono ?_
  rintro e w11 ⟨rfl, hs⟩
  subst hs
  go_wp2_with (fail)
  refine (H_hnf.out _ H_fa.out).mono ?_
  rintro e w12 ⟨ev, rfl, hev, f9⟩
  have r3 := row_fresh H_r3.out f9
  have p0 := row_cell r3 0
  have p1 := row_cell r3 1
  have p2 := row_cell r3 2
  simp at p0 p1 p2
  have z0 : w12.frozen? ⟨g + 1 + 1, 0, none⟩ = false := frozen_of_row _ _ _ _ _ r3
  have z1 : w12.frozen? ⟨g + 1 + 1, 1, none⟩ = false := frozen_of_row _ _ _ _ _ r3
  have z2 : w12.frozen? ⟨g + 1 + 1, 2, none⟩ = false := frozen_of_row _ _ _ _ _ r3
  have fa := fresh_trans H_fa.out f9
  clear H_r3 H_fa f9 k0 k1 k2 k3 k4 k5
  have H_r3 := Lib.hid r3; clear r3
  have H_fa := Lib.hid fa; clear fa
  have H_hev := Lib.hid hev; clear hev
  go_wp2_with (fail)
  refine bodyPost_ret (results_cell_tmp_row rfl _ _ (g + 1 + 1) 62 #[.bool nz, .int .i8 sz, .int .u64 cz] (0, 0) _ rfl (row_set (row_set (row_set H_r3.out))) Tryz.underlying62 rfl (by kernel_rfl)) rfl ?_
  exact ⟨ev, rfl, H_hev.out, Fresh.set3 H_fa.out (by have := H_hg.out; omega)⟩

set_option maxRecDepth 20000 in
set_option maxHeartbeats 4000000 in
theorem addFint_lt_more (m1 m2 nz : Bool) (c1 s1 c2 s2 : Nat) (w : World) (hP : Pow10s w) (ms : Nat) (hs1 : s1 ≤ 19) (hs2 : s2 ≤ 19) (hc1 : c1 ≤ 9999999999999999999) (hc2 : c2 ≤ 9999999999999999999) (hsc : s1 < s2) (hfit : c1 * 10 ^ (s2 - s1) ≤ 9999999999999999999) (hsg : m1 ≠ m2) (hsum : ¬ c1 * 10 ^ (s2 - s1) < c2)
    (sz cz : Nat) (Pv : Value → Prop) (hnf : ∀ W, Fresh w W → Calls Tryz.prog 123 #[.bool m1, .int .u64 (adf (c1 * 10 ^ (s2 - s1)) (c2) : Nat), .int .i64 s2, .int .i64 ms] W (DOut W nz sz cz Pv)) :
    Calls Tryz.prog 102 #[gd m1 s1 c1, gd m2 s2 c2, .int .i64 ms] w (DOut w nz sz cz Pv) := by
  have t1 : decide ((s2 : Int) < (s1 : Int)) = false := by simp; omega
  have t1n : ¬ s2 < s1 := by omega
  have t2 : decide ((s1 : Int) < (s2 : Int)) = true := by simp; omega
  have hlsh := fun W (hW : Fresh w W) => flsh_any c1 (s2 - s1) W (hP.fresh hW) hc1 (by omega)
  obtain ⟨k, hk⟩ : ∃ k, k = s2 - s1 := ⟨_, rfl⟩
  have hkI : (s2 : Int) - (s1 : Int) = (k : Int) := by omega
  have hkw : IntKind.i64.wrap (k : Int) = (k : Int) := wrap_nat k (by omega)
  rw [← hk] at hlsh hfit hsum hnf
  obtain ⟨b, hb⟩ : ∃ b, b = c1 * 10 ^ k := ⟨_, rfl⟩
  rw [← hb] at hlsh hfit hsum hnf
  have hm : mulTo b = .tuple #[.int .u64 b, .bool true] := by unfold mulTo; rw [if_pos hfit]
  rw [hm] at hlsh
  clear hm hb hk
  have t4 : (m1 == m2) = false := by simpa using hsg
  have t5 : decide ((b : Int) < (c2 : Int)) = false := by simp; omega
  have hsub := fun W => fsubAbs_any b c2 W hfit hc2
  generalize adf b c2 = q at *
  have H_hsg := Lib.hid hsg
  clear hsg
  obtain ⟨g, hg⟩ : ∃ g, g = w.heap.size := ⟨_, rfl⟩
  have bx := boxes3 w #[.bool m1, .int .i8 s1, .int .u64 c1] #[.bool m2, .int .i8 s2, .int .u64 c2] #[.bool false, .int .i8 0, .int .u64 0] 62 62 62 g hg
  have H_bx := Lib.hid bx; clear bx
  have H_hP := Lib.hid hP; clear hP
  have H_hnf := Lib.hid hnf; clear hnf
  have H_hlsh := Lib.hid hlsh; clear hlsh
  have H_hsub := Lib.hid hsub; clear hsub
  go_enter Tryz.func102, Tryz.ntmps102
  go_wp2_with (fail)
  generalize hw1 : ((w.alloc _).alloc _).alloc _ = w1
  rw [← hg]
  obtain ⟨r1, r2, r3, fa, _⟩ := H_bx.out w1 hw1
  have k0 := row_cell r1 0
  have k1 := row_cell r1 1
  have k2 := row_cell r1 2
  have k3 := row_cell r2 0
  have k4 := row_cell r2 1
  have k5 := row_cell r2 2
  simp at k0 k1 k2 k3 k4 k5
  have H_r1 := Lib.hid r1; clear r1
  have H_r2 := Lib.hid r2; clear r2
  have H_r3 := Lib.hid r3; clear r3
  have H_fa := Lib.hid fa; clear fa
  have H_hw1 := Lib.hid hw1; clear hw1
  have H_hg := Lib.hid hg; clear hg
  go_wp2_with (fail)
  refine (Scale_any m1 s1 c1 _ hs1).mono ?_
  rintro e w2 ⟨rfl, f2⟩
  have r1 := row_fresh H_r1.out f2
  have r2 := row_fresh H_r2.out f2
  have r3 := row_fresh H_r3.out f2
  have fa := fresh_trans H_fa.out f2
  clear H_r1 H_r2 H_r3 H_fa f2
  clear k0 k1 k2 k3 k4 k5
  have k0 := row_cell r1 0
  have k1 := row_cell r1 1
  have k2 := row_cell r1 2
  have k3 := row_cell r2 0
  have k4 := row_cell r2 1
  have k5 := row_cell r2 2
  simp at k0 k1 k2 k3 k4 k5
  have H_r1 := Lib.hid r1; clear r1
  have H_r2 := Lib.hid r2; clear r2
  have H_r3 := Lib.hid r3; clear r3
  have H_fa := Lib.hid fa; clear fa
  go_wp2_with (fail)
  refine (IsNeg_any m1 s1 c1 _).mono ?_
  rintro e w3 ⟨rfl, f3⟩
  have r1 := row_fresh H_r1.out f3
  have r2 := row_fresh H_r2.out f3
  have r3 := row_fresh H_r3.out f3
  have fa := fresh_trans H_fa.out f3
  clear H_r1 H_r2 H_r3 H_fa f3
  clear k0 k1 k2 k3 k4 k5
  have k0 := row_cell r1 0
  have k1 := row_cell r1 1
  have k2 := row_cell r1 2
  have k3 := row_cell r2 0
  have k4 := row_cell r2 1
  have k5 := row_cell r2 2
  simp at k0 k1 k2 k3 k4 k5
  have H_r1 := Lib.hid r1; clear r1
  have H_r2 := Lib.hid r2; clear r2
  have H_r3 := Lib.hid r3; clear r3
  have H_fa := Lib.hid fa; clear fa
  go_wp2_with (fail)
  refine (Scale_any m2 s2 c2 _ hs2).mono ?_
  rintro e w4 ⟨rfl, f4⟩
  have r1 := row_fresh H_r1.out f4
  have r2 := row_fresh H_r2.out f4
  have r3 := row_fresh H_r3.out f4
  have fa := fresh_trans H_fa.out f4
  clear H_r1 H_r2 H_r3 H_fa f4
  clear k0 k1 k2 k3 k4 k5
  have k0 := row_cell r1 0
  have k1 := row_cell r1 1
  have k2 := row_cell r1 2
  have k3 := row_cell r2 0
  have k4 := row_cell r2 1
  have k5 := row_cell r2 2
  simp at k0 k1 k2 k3 k4 k5
  have H_r1 := Lib.hid r1; clear r1
  have H_r2 := Lib.hid r2; clear r2
  have H_r3 := Lib.hid r3; clear r3
  have H_fa := Lib.hid fa; clear fa
  go_wp2_with (fail)
  refine (Scale_any m2 s2 c2 _ hs2).mono ?_
  rintro e w5 ⟨rfl, f5⟩
  have r1 := row_fresh H_r1.out f5
  have r2 := row_fresh H_r2.out f5
  have r3 := row_fresh H_r3.out f5
  have fa := fresh_trans H_fa.out f5
  clear H_r1 H_r2 H_r3 H_fa f5
  clear k0 k1 k2 k3 k4 k5
  have k0 := row_cell r1 0
  have k1 := row_cell r1 1
  have k2 := row_cell r1 2
  have k3 := row_cell r2 0
  have k4 := row_cell r2 1
  have k5 := row_cell r2 2
  simp at k0 k1 k2 k3 k4 k5
  have H_r1 := Lib.hid r1; clear r1
  have H_r2 := Lib.hid r2; clear r2
  have H_r3 := Lib.hid r3; clear r3
  have H_fa := Lib.hid fa; clear fa
  go_wp2_with (fail)
  refine (Scale_any m2 s2 c2 _ hs2).mono ?_
  rintro e w6 ⟨rfl, f6⟩
  have r1 := row_fresh H_r1.out f6
  have r2 := row_fresh H_r2.out f6
  have r3 := row_fresh H_r3.out f6
  have fa := fresh_trans H_fa.out f6
  clear H_r1 H_r2 H_r3 H_fa f6
  clear k0 k1 k2 k3 k4 k5
  have k0 := row_cell r1 0
  have k1 := row_cell r1 1
  have k2 := row_cell r1 2
  have k3 := row_cell r2 0
  have k4 := row_cell r2 1
  have k5 := row_cell r2 2
  simp at k0 k1 k2 k3 k4 k5
  have H_r1 := Lib.hid r1; clear r1
  have H_r2 := Lib.hid r2; clear r2
  have H_r3 := Lib.hid r3; clear r3
  have H_fa := Lib.hid fa; clear fa
  go_wp2_with (fail)
  refine (H_hlsh.out _ H_fa.out).mono ?_
  rintro e w7 ⟨rfl, hs⟩
  subst hs
  go_wp2_with (fail)
  refine (Scale_any m2 s2 c2 _ hs2).mono ?_
  rintro e w8 ⟨rfl, f8⟩
  have r1 := row_fresh H_r1.out f8
  have r2 := row_fresh H_r2.out f8
  have r3 := row_fresh H_r3.out f8
  have fa := fresh_trans H_fa.out f8
  clear H_r1 H_r2 H_r3 H_fa f8
  clear k0 k1 k2 k3 k4 k5
  have k0 := row_cell r1 0
  have k1 := row_cell r1 1
  have k2 := row_cell r1 2
  have k3 := row_cell r2 0
  have k4 := row_cell r2 1
  have k5 := row_cell r2 2
  simp at k0 k1 k2 k3 k4 k5
  have H_r1 := Lib.hid r1; clear r1
  have H_r2 := Lib.hid r2; clear r2
  have H_r3 := Lib.hid r3; clear r3
  have H_fa := Lib.hid fa; clear fa
  go_wp2_with (fail)
  refine (IsNeg_any m2 s2 c2 _).mono ?_
  rintro e w9 ⟨rfl, f9⟩
  have r1 := row_fresh H_r1.out f9
  have r2 := row_fresh H_r2.out f9
  have r3 := row_fresh H_r3.out f9
  have fa := fresh_trans H_fa.out f9
  clear H_r1 H_r2 H_r3 H_fa f9
  clear k0 k1 k2 k3 k4 k5
  have k0 := row_cell r1 0
  have k1 := row_cell r1 1
  have k2 := row_cell r1 2
  have k3 := row_cell r2 0
  have k4 := row_cell r2 1
  have k5 := row_cell r2 2
  simp at k0 k1 k2 k3 k4 k5
  have H_r1 := Lib.hid r1; clear r1
  have H_r2 := Lib.hid r2; clear r2
  have H_r3 := Lib.hid r3; clear r3
  have H_fa := Lib.hid fa; clear fa
  go_wp2_with (fail)
  refine (H_hsub.out _).mono ?_
  rintro e w10 ⟨rfl, hs⟩
  subst hs
  go_wp2_with (fail)
  refine (H_hnf.out _ H_fa.out).mono ?_
  rintro e w11 ⟨ev, rfl, hev, f9⟩
  have r3 := row_fresh H_r3.out f9
  have p0 := row_cell r3 0
  have p1 := row_cell r3 1
  have p2 := row_cell r3 2
  simp at p0 p1 p2
  have z0 : w11.frozen? ⟨g + 1 + 1, 0, none⟩ = false := frozen_of_row _ _ _ _ _ r3
  have z1 : w11.frozen? ⟨g + 1 + 1, 1, none⟩ = false := frozen_of_row _ _ _ _ _ r3
  have z2 : w11.frozen? ⟨g + 1 + 1, 2, none⟩ = false := frozen_of_row _ _ _ _ _ r3
  have fa := fresh_trans H_fa.out f9
  clear H_r3 H_fa f9 k0 k1 k2 k3 k4 k5
  have H_r3 := Lib.hid r3; clear r3
  have H_fa := Lib.hid fa; clear fa
  have H_hev := Lib.hid hev; clear hev
  go_wp2_with (fail)
  refine bodyPost_ret (results_cell_tmp_row rfl _ _ (g + 1 + 1) 62 #[.bool nz, .int .i8 sz, .int .u64 cz] (0, 0) _ rfl (row_set (row_set (row_set H_r3.out))) Tryz.underlying62 rfl (by kernel_rfl)) rfl ?_
  exact ⟨ev, rfl, H_hev.out, Fresh.set3 H_fa.out (by have := H_hg.out; omega)⟩

set_option maxRecDepth 20000 in
set_option maxHeartbeats 4000000 in
theorem mulFint_no (m1 m2 : Bool) (c1 s1 c2 s2 : Nat) (w : World) (hE : ErrIs w) (ms : Nat) (hs1 : s1 ≤ 19) (hs2 : s2 ≤ 19) (hc1 : c1 ≤ 9999999999999999999) (hc2 : c2 ≤ 9999999999999999999) (hfit : ¬ c1 * c2 ≤ 9999999999999999999) :
    Calls Tryz.prog 103 #[gd m1 s1 c1, gd m2 s2 c2, .int .i64 ms] w (ClampErr w) := by
  have hmul : ∀ W, Calls Tryz.prog 124 #[.int .u64 c1, .int .u64 c2] W (fun e w' => e = .returned (mulTo (c1 * c2)) ∧ w' = W) := fun W => by
    rcases Nat.eq_zero_or_pos c2 with h | h
    · subst h; exact fmul_zero c1 W
    · exact fmul_any c1 c2 W hc1 h (by omega)
  have hsI : (s1 : Int) + (s2 : Int) = ((s1 + s2 : Nat) : Int) := by omega
  obtain ⟨S, hS⟩ : ∃ S, S = s1 + s2 := ⟨_, rfl⟩
  obtain ⟨q, hq⟩ : ∃ q, q = c1 * c2 := ⟨_, rfl⟩
  rw [← hq] at hmul hfit
  rw [← hS] at hsI
  have hSw : IntKind.i64.wrap (S : Int) = (S : Int) := wrap_nat S (by omega)
  have hm : mulTo q = .tuple #[.int .u64 0, .bool false] := by unfold mulTo; rw [if_neg hfit]
  rw [hm] at hmul
  clear hm hq hS
  clear hfit
  obtain ⟨g, hg⟩ : ∃ g, g = w.heap.size := ⟨_, rfl⟩
  have bx := boxes3 w #[.bool m1, .int .i8 s1, .int .u64 c1] #[.bool m2, .int .i8 s2, .int .u64 c2] #[.bool false, .int .i8 0, .int .u64 0] 62 62 62 g hg
  have H_bx := Lib.hid bx; clear bx
  have H_hmul := Lib.hid hmul; clear hmul
  have H_hE := Lib.hid hE; clear hE
  go_enter Tryz.func103, Tryz.ntmps103
  go_wp2_with (fail)
  generalize hw1 : ((w.alloc _).alloc _).alloc _ = w1
  rw [← hg]
  obtain ⟨r1, r2, r3, fa, _⟩ := H_bx.out w1 hw1
  have k0 := row_cell r1 0
  have k1 := row_cell r1 1
  have k2 := row_cell r1 2
  have k3 := row_cell r2 0
  have k4 := row_cell r2 1
  have k5 := row_cell r2 2
  simp at k0 k1 k2 k3 k4 k5
  have H_r1 := Lib.hid r1; clear r1
  have H_r2 := Lib.hid r2; clear r2
  have H_r3 := Lib.hid r3; clear r3
  have H_fa := Lib.hid fa; clear fa
  have H_hw1 := Lib.hid hw1; clear hw1
  have H_hg := Lib.hid hg; clear hg
  go_wp2_with (fail)
  refine (Scale_any m1 s1 c1 _ hs1).mono ?_
  rintro e w2 ⟨rfl, f2⟩
  have r1 := row_fresh H_r1.out f2
  have r2 := row_fresh H_r2.out f2
  have r3 := row_fresh H_r3.out f2
  have fa := fresh_trans H_fa.out f2
  clear H_r1 H_r2 H_r3 H_fa f2
  clear k0 k1 k2 k3 k4 k5
  have k0 := row_cell r1 0
  have k1 := row_cell r1 1
  have k2 := row_cell r1 2
  have k3 := row_cell r2 0
  have k4 := row_cell r2 1
  have k5 := row_cell r2 2
  simp at k0 k1 k2 k3 k4 k5
  have H_r1 := Lib.hid r1; clear r1
  have H_r2 := Lib.hid r2; clear r2
  have H_r3 := Lib.hid r3; clear r3
  have H_fa := Lib.hid fa; clear fa
  go_wp2_with (fail)
  refine (IsNeg_any m1 s1 c1 _).mono ?_
  rintro e w3 ⟨rfl, f3⟩
  have r1 := row_fresh H_r1.out f3
  have r2 := row_fresh H_r2.out f3
  have r3 := row_fresh H_r3.out f3
  have fa := fresh_trans H_fa.out f3
  clear H_r1 H_r2 H_r3 H_fa f3
  clear k0 k1 k2 k3 k4 k5
  have k0 := row_cell r1 0
  have k1 := row_cell r1 1
  have k2 := row_cell r1 2
  have k3 := row_cell r2 0
  have k4 := row_cell r2 1
  have k5 := row_cell r2 2
  simp at k0 k1 k2 k3 k4 k5
  have H_r1 := Lib.hid r1; clear r1
  have H_r2 := Lib.hid r2; clear r2
  have H_r3 := Lib.hid r3; clear r3
  have H_fa := Lib.hid fa; clear fa
  go_wp2_with (fail)
  refine (H_hmul.out _).mono ?_
  rintro e w4 ⟨rfl, hs⟩
  subst hs
  go_wp2_with (fail)
  obtain ⟨ae, hae⟩ := H_hE.out.fresh H_fa.out
  have hne : 0 ≠ g + 1 + 1 := by
    obtain ⟨_, h0⟩ := H_hE.out
    have := ErrIs.lt h0
    have := H_hg.out
    omega
  have p0 := row_cell H_r3.out 0
  have p1 := row_cell H_r3.out 1
  have p2 := row_cell H_r3.out 2
  simp at p0 p1 p2
  have z0 : w4.frozen? ⟨g + 1 + 1, 0, none⟩ = false := frozen_of_row _ _ _ _ _ H_r3.out
  have z1 : w4.frozen? ⟨g + 1 + 1, 1, none⟩ = false := frozen_of_row _ _ _ _ _ H_r3.out
  have z2 : w4.frozen? ⟨g + 1 + 1, 2, none⟩ = false := frozen_of_row _ _ _ _ _ H_r3.out
  go_wp2_with (fail)
  go_region_held3 (fun (w' : World) => w'.cell? ⟨0, 0, none⟩ = some (.iface 115 (.pointer (some ae)))) (first | exact hae | exact far3 hne hae) (fail)
  go_wp2
  refine bodyPost_ret (results_cell_tmp_row rfl _ _ (g + 1 + 1) 62 #[.bool false, .int .i8 0, .int .u64 0] (0, 0) _ rfl (row_set (row_set (row_set H_r3.out))) Tryz.underlying62 rfl (by kernel_rfl)) rfl ?_
  exact ⟨ae, rfl, Fresh.set3 (H_fa.out.drewN 1) (by have := H_hg.out; omega)⟩

set_option maxRecDepth 20000 in
set_option maxHeartbeats 4000000 in
theorem mulFint_go (m1 m2 nz : Bool) (c1 s1 c2 s2 : Nat) (w : World) (ms : Nat) (hs1 : s1 ≤ 19) (hs2 : s2 ≤ 19) (hc1 : c1 ≤ 9999999999999999999) (hc2 : c2 ≤ 9999999999999999999) (hfit : c1 * c2 ≤ 9999999999999999999)
    (sz cz : Nat) (Pv : Value → Prop) (hnf : ∀ W, Fresh w W → Calls Tryz.prog 123 #[.bool (m1 != m2), .int .u64 (c1 * c2 : Nat), .int .i64 (s1 + s2 : Nat), .int .i64 ms] W (DOut W nz sz cz Pv)) :
    Calls Tryz.prog 103 #[gd m1 s1 c1, gd m2 s2 c2, .int .i64 ms] w (DOut w nz sz cz Pv) := by
  have hmul : ∀ W, Calls Tryz.prog 124 #[.int .u64 c1, .int .u64 c2] W (fun e w' => e = .returned (mulTo (c1 * c2)) ∧ w' = W) := fun W => by
    rcases Nat.eq_zero_or_pos c2 with h | h
    · subst h; exact fmul_zero c1 W
    · exact fmul_any c1 c2 W hc1 h (by omega)
  have hsI : (s1 : Int) + (s2 : Int) = ((s1 + s2 : Nat) : Int) := by omega
  obtain ⟨S, hS⟩ : ∃ S, S = s1 + s2 := ⟨_, rfl⟩
  obtain ⟨q, hq⟩ : ∃ q, q = c1 * c2 := ⟨_, rfl⟩
  rw [← hq] at hmul hfit hnf
  rw [← hS] at hsI hnf
  have hSw : IntKind.i64.wrap (S : Int) = (S : Int) := wrap_nat S (by omega)
  have hm : mulTo q = .tuple #[.int .u64 q, .bool true] := by unfold mulTo; rw [if_pos hfit]
  rw [hm] at hmul
  clear hm hq hS
  obtain ⟨g, hg⟩ : ∃ g, g = w.heap.size := ⟨_, rfl⟩
  have bx := boxes3 w #[.bool m1, .int .i8 s1, .int .u64 c1] #[.bool m2, .int .i8 s2, .int .u64 c2] #[.bool false, .int .i8 0, .int .u64 0] 62 62 62 g hg
  have H_bx := Lib.hid bx; clear bx
  have H_hmul := Lib.hid hmul; clear hmul
  have H_hnf := Lib.hid hnf; clear hnf
  go_enter Tryz.func103, Tryz.ntmps103
  go_wp2_with (fail)
  generalize hw1 : ((w.alloc _).alloc _).alloc _ = w1
  rw [← hg]
  obtain ⟨r1, r2, r3, fa, _⟩ := H_bx.out w1 hw1
  have k0 := row_cell r1 0
  have k1 := row_cell r1 1
  have k2 := row_cell r1 2
  have k3 := row_cell r2 0
  have k4 := row_cell r2 1
  have k5 := row_cell r2 2
  simp at k0 k1 k2 k3 k4 k5
  have H_r1 := Lib.hid r1; clear r1
  have H_r2 := Lib.hid r2; clear r2
  have H_r3 := Lib.hid r3; clear r3
  have H_fa := Lib.hid fa; clear fa
  have H_hw1 := Lib.hid hw1; clear hw1
  have H_hg := Lib.hid hg; clear hg
  go_wp2_with (fail)
  refine (Scale_any m1 s1 c1 _ hs1).mono ?_
  rintro e w2 ⟨rfl, f2⟩
  have r1 := row_fresh H_r1.out f2
  have r2 := row_fresh H_r2.out f2
  have r3 := row_fresh H_r3.out f2
  have fa := fresh_trans H_fa.out f2
  clear H_r1 H_r2 H_r3 H_fa f2
  clear k0 k1 k2 k3 k4 k5
  have k0 := row_cell r1 0
  have k1 := row_cell r1 1
  have k2 := row_cell r1 2
  have k3 := row_cell r2 0
  have k4 := row_cell r2 1
  have k5 := row_cell r2 2
  simp at k0 k1 k2 k3 k4 k5
  have H_r1 := Lib.hid r1; clear r1
  have H_r2 := Lib.hid r2; clear r2
  have H_r3 := Lib.hid r3; clear r3
  have H_fa := Lib.hid fa; clear fa
  go_wp2_with (fail)
  refine (IsNeg_any m1 s1 c1 _).mono ?_
  rintro e w3 ⟨rfl, f3⟩
  have r1 := row_fresh H_r1.out f3
  have r2 := row_fresh H_r2.out f3
  have r3 := row_fresh H_r3.out f3
  have fa := fresh_trans H_fa.out f3
  clear H_r1 H_r2 H_r3 H_fa f3
  clear k0 k1 k2 k3 k4 k5
  have k0 := row_cell r1 0
  have k1 := row_cell r1 1
  have k2 := row_cell r1 2
  have k3 := row_cell r2 0
  have k4 := row_cell r2 1
  have k5 := row_cell r2 2
  simp at k0 k1 k2 k3 k4 k5
  have H_r1 := Lib.hid r1; clear r1
  have H_r2 := Lib.hid r2; clear r2
  have H_r3 := Lib.hid r3; clear r3
  have H_fa := Lib.hid fa; clear fa
  go_wp2_with (fail)
  refine (H_hmul.out _).mono ?_
  rintro e w4 ⟨rfl, hs⟩
  subst hs
  go_wp2_with (fail)
  refine (Scale_any m2 s2 c2 _ hs2).mono ?_
  rintro e w5 ⟨rfl, f5⟩
  have r1 := row_fresh H_r1.out f5
  have r2 := row_fresh H_r2.out f5
  have r3 := row_fresh H_r3.out f5
  have fa := fresh_trans H_fa.out f5
  clear H_r1 H_r2 H_r3 H_fa f5
  clear k0 k1 k2 k3 k4 k5
  have k0 := row_cell r1 0
  have k1 := row_cell r1 1
  have k2 := row_cell r1 2
  have k3 := row_cell r2 0
  have k4 := row_cell r2 1
  have k5 := row_cell r2 2
  simp at k0 k1 k2 k3 k4 k5
  have H_r1 := Lib.hid r1; clear r1
  have H_r2 := Lib.hid r2; clear r2
  have H_r3 := Lib.hid r3; clear r3
  have H_fa := Lib.hid fa; clear fa
  go_wp2_with (fail)
  refine (IsNeg_any m2 s2 c2 _).mono ?_
  rintro e w6 ⟨rfl, f6⟩
  have r1 := row_fresh H_r1.out f6
  have r2 := row_fresh H_r2.out f6
  have r3 := row_fresh H_r3.out f6
  have fa := fresh_trans H_fa.out f6
  clear H_r1 H_r2 H_r3 H_fa f6
  clear k0 k1 k2 k3 k4 k5
  have k0 := row_cell r1 0
  have k1 := row_cell r1 1
  have k2 := row_cell r1 2
  have k3 := row_cell r2 0
  have k4 := row_cell r2 1
  have k5 := row_cell r2 2
  simp at k0 k1 k2 k3 k4 k5
  have H_r1 := Lib.hid r1; clear r1
  have H_r2 := Lib.hid r2; clear r2
  have H_r3 := Lib.hid r3; clear r3
  have H_fa := Lib.hid fa; clear fa
  go_wp2_with (fail)
  refine (H_hnf.out _ H_fa.out).mono ?_
  rintro e w7 ⟨ev, rfl, hev, f9⟩
  have r3 := row_fresh H_r3.out f9
  have p0 := row_cell r3 0
  have p1 := row_cell r3 1
  have p2 := row_cell r3 2
  simp at p0 p1 p2
  have z0 : w7.frozen? ⟨g + 1 + 1, 0, none⟩ = false := frozen_of_row _ _ _ _ _ r3
  have z1 : w7.frozen? ⟨g + 1 + 1, 1, none⟩ = false := frozen_of_row _ _ _ _ _ r3
  have z2 : w7.frozen? ⟨g + 1 + 1, 2, none⟩ = false := frozen_of_row _ _ _ _ _ r3
  have fa := fresh_trans H_fa.out f9
  clear H_r3 H_fa f9 k0 k1 k2 k3 k4 k5
  have H_r3 := Lib.hid r3; clear r3
  have H_fa := Lib.hid fa; clear fa
  have H_hev := Lib.hid hev; clear hev
  go_wp2_with (fail)
  refine bodyPost_ret (results_cell_tmp_row rfl _ _ (g + 1 + 1) 62 #[.bool nz, .int .i8 sz, .int .u64 cz] (0, 0) _ rfl (row_set (row_set (row_set H_r3.out))) Tryz.underlying62 rfl (by kernel_rfl)) rfl ?_
  exact ⟨ev, rfl, H_hev.out, Fresh.set3 H_fa.out (by have := H_hg.out; omega)⟩

end Go.Proofs.YtibaeafmgncjdaaGreatDoor

/- The sums and products by whole numbers of 64 bits: what they make is a result as it has to be, or the fault that there is no room. -/
namespace Go.Proofs.YtibaeafmgncjdaaGreatDoor
open Go.RowKit

/-- the decimal is a result for z / d with at least ms places -/
def ResOK (z : Int) (d ms : Nat) (nz : Bool) (sz cz : Nat) : Prop := Good z.natAbs d cz sz ∧ ms ≤ sz ∧ (nz = true → 0 < cz) ∧ zfix nz cz = sgnN z cz

theorem nf_law (neg : Bool) (C S ms : Nat) (hC : C ≤ 9999999999999999999) (hS : S ≤ 38) (hms : ms ≤ 19) :
    (∀ w, Pow10s w → ErrIs w → Calls Tryz.prog 123 #[.bool neg, .int .u64 C, .int .i64 S, .int .i64 ms] w (ClampErr w)) ∨
    ∃ s c, (∀ w, Pow10s w → Calls Tryz.prog 123 #[.bool neg, .int .u64 C, .int .i64 S, .int .i64 ms] w (VRet w (.tuple #[gd (neg && decide (0 < c)) s c, .nilIface]))) ∧ ms ≤ s ∧ (∀ N d, 0 < d → N * 10 ^ S = C * d → Good N d c s) := by
  rcases Nat.lt_or_ge S ms with h | h
  · by_cases hfit : C * 10 ^ (ms - S) ≤ 9999999999999999999
    · exact .inr ⟨ms, _, fun w hP => newFromFint_lt neg C S ms w hP hC h hms hfit, Nat.le_refl _, fun N d hd hN => good_exact hN (by omega) hms hfit⟩
    · exact .inl fun w hP hE => newFromFint_no neg C S ms w hP hE hC h hms hfit
  · rcases Nat.lt_or_ge 19 S with h2 | h2
    · refine .inr ⟨19, _, fun w hP => newFromFint_gt neg C S ms w hP hC h h2 hS, hms, fun N d hd hN => good_cut hN hd (by omega) ?_⟩
      have h5 : 10 ^ 1 ≤ 10 ^ (S - 19) := Nat.pow_le_pow_right (by omega) (by omega)
      have h6 := rhe_le C (10 ^ (S - 19))
      have h7 : C / 10 ^ (S - 19) ≤ C / 10 ^ 1 := Nat.div_le_div_left h5 (by decide)
      omega
    · exact .inr ⟨S, C, fun w hP => newFromFint_mid neg C S ms w hP hC h h2, h, fun N d hd hN => good_same hN h2 hC⟩

theorem res_ok {z : Int} {d ms s c : Nat} {neg : Bool} (hd : 0 < d) (hg : Good z.natAbs d c s) (hms : ms ≤ s) (h1 : z < 0 → neg = true) (h2 : 0 < z → neg = false) : ResOK z d ms (neg && decide (0 < c)) s c :=
  ⟨hg, hms, fun h => canon_pos h, out_sign h1 h2 (fun h => good_zero hd (by rw [h] at hg; exact hg))⟩

theorem DOut.ok {w w' : World} {nz : Bool} {sz cz : Nat} {e : Ending} (h : DOut w nz sz cz NoErr e w') : VRet w (.tuple #[gd nz sz cz, .nilIface]) e w' := by
  obtain ⟨ev, h1, h2, h3⟩ := h
  exact ⟨by rw [h1, show ev = .nilIface from h2], h3⟩

theorem DOut.err {w w' : World} {e : Ending} (h : DOut w false 0 0 AnErr e w') : ClampErr w e w' := by
  obtain ⟨ev, h1, ⟨a, h2⟩, h3⟩ := h
  exact ⟨a, by rw [h1, h2], h3⟩

theorem sumS_same (m : Bool) (a e : Nat) : sumS m m a e = m := by unfold sumS; rw [if_pos rfl]
theorem sumC_same (m : Bool) (a e : Nat) : sumC m m a e = a + e := by unfold sumC; rw [if_pos rfl]
theorem sumS_less {m n : Bool} {a e : Nat} (h : m ≠ n) (hl : a < e) : sumS m n a e = n := by unfold sumS; rw [if_neg h, if_pos hl]
theorem sumS_more {m n : Bool} {a e : Nat} (h : m ≠ n) (hl : ¬ a < e) : sumS m n a e = m := by unfold sumS; rw [if_neg h, if_neg hl]
theorem sumC_diff {m n : Bool} {a e : Nat} (h : m ≠ n) : sumC m n a e = adf a e := by unfold sumC; rw [if_neg h]
theorem adf_le {a e b : Nat} (h1 : a ≤ b) (h2 : e ≤ b) : adf a e ≤ b := by unfold adf; split <;> omega

/-- what a sum does, at the coefficients brought to one scale -/
theorem add_core (f : FuncId) (args : Array Value) (m1 m2 : Bool) (c1 s1 c2 s2 ms a e S : Nat) (hms : ms ≤ 19) (hs1 : s1 ≤ 19) (hs2 : s2 ≤ 19) (ha : a = c1 * 10 ^ (s2 - s1)) (he : e = c2 * 10 ^ (s1 - s2)) (hS : S = max s1 s2) (hC : sumC m1 m2 a e ≤ 9999999999999999999)
    (go : ∀ w nz sz cz Pv, Pow10s w → (∀ W, Fresh w W → Calls Tryz.prog 123 #[.bool (sumS m1 m2 a e), .int .u64 (sumC m1 m2 a e : Nat), .int .i64 S, .int .i64 ms] W (DOut W nz sz cz Pv)) → Calls Tryz.prog f args w (DOut w nz sz cz Pv)) :
    (∀ w, Pow10s w → ErrIs w → Calls Tryz.prog f args w (ClampErr w)) ∨
    ∃ nz sz cz, (∀ w, Pow10s w → ErrIs w → Calls Tryz.prog f args w (VRet w (.tuple #[gd nz sz cz, .nilIface]))) ∧ ResOK (zfix m1 c1 * ((10 ^ s2 : Nat) : Int) + zfix m2 c2 * ((10 ^ s1 : Nat) : Int)) (10 ^ s1 * 10 ^ s2) ms nz sz cz := by
  have hd : 0 < 10 ^ s1 * 10 ^ s2 := Nat.mul_pos (Nat.pow_pos (by omega)) (Nat.pow_pos (by omega))
  rcases nf_law (sumS m1 m2 a e) (sumC m1 m2 a e) S ms hC (by omega) hms with herr | ⟨s, c, hok, hle, hgood⟩
  · exact .inl fun w hP hE => (go w false 0 0 AnErr hP (fun W hW => (herr W (hP.fresh hW) (hE.fresh hW)).mono (fun _ _ h => DOut.of_err h))).mono (fun _ _ h => h.err)
  · refine .inr ⟨_, s, c, fun w hP hE => (go w _ s c NoErr hP (fun W hW => (hok W (hP.fresh hW)).mono (fun _ _ h => DOut.of_ok h))).mono (fun _ _ h => h.ok), ?_⟩
    subst ha he hS
    have hsn := add_sign m1 m2 c1 s1 c2 s2
    exact res_ok hd (hgood _ _ hd (add_frac m1 m2 c1 s1 c2 s2)) hle hsn.1 hsn.2

theorem addFint_law (m1 m2 : Bool) (c1 s1 c2 s2 ms : Nat) (hms : ms ≤ 19) (hs1 : s1 ≤ 19) (hs2 : s2 ≤ 19) (hc1 : c1 ≤ 9999999999999999999) (hc2 : c2 ≤ 9999999999999999999) :
    (∀ w, Pow10s w → ErrIs w → Calls Tryz.prog 102 #[gd m1 s1 c1, gd m2 s2 c2, .int .i64 ms] w (ClampErr w)) ∨
    ∃ nz sz cz, (∀ w, Pow10s w → ErrIs w → Calls Tryz.prog 102 #[gd m1 s1 c1, gd m2 s2 c2, .int .i64 ms] w (VRet w (.tuple #[gd nz sz cz, .nilIface]))) ∧ ResOK (zfix m1 c1 * ((10 ^ s2 : Nat) : Int) + zfix m2 c2 * ((10 ^ s1 : Nat) : Int)) (10 ^ s1 * 10 ^ s2) ms nz sz cz := by
  have z0 : ∀ x y : Nat, x ≤ y → x - y = 0 := fun x y h => by omega
  rcases Nat.lt_trichotomy s1 s2 with h | h | h
  · have ee : c2 = c2 * 10 ^ (s1 - s2) := by rw [z0 s1 s2 (by omega)]; simp
    by_cases hfit : c1 * 10 ^ (s2 - s1) ≤ 9999999999999999999
    · by_cases hm : m1 = m2
      · subst hm
        by_cases hsum : c1 * 10 ^ (s2 - s1) + c2 ≤ 9999999999999999999
        · exact add_core _ _ m1 m1 c1 s1 c2 s2 ms _ _ s2 hms hs1 hs2 rfl ee (by omega) (by rw [sumC_same]; exact hsum) (fun w nz sz cz Pv hP hnf => addFint_lt_same m1 m1 nz c1 s1 c2 s2 w hP ms hs1 hs2 hc1 hc2 h hfit rfl hsum sz cz Pv (by rw [sumS_same, sumC_same] at hnf; exact hnf))
        · exact .inl fun w hP hE => addFint_lt_addno m1 m1 c1 s1 c2 s2 w hP hE ms hs1 hs2 hc1 hc2 h hfit rfl hsum
      · by_cases hsum : c1 * 10 ^ (s2 - s1) < c2
        · exact add_core _ _ m1 m2 c1 s1 c2 s2 ms _ _ s2 hms hs1 hs2 rfl ee (by omega) (by rw [sumC_diff hm]; exact adf_le hfit hc2) (fun w nz sz cz Pv hP hnf => addFint_lt_less m1 m2 nz c1 s1 c2 s2 w hP ms hs1 hs2 hc1 hc2 h hfit hm hsum sz cz Pv (by rw [sumS_less hm hsum, sumC_diff hm] at hnf; exact hnf))
        · exact add_core _ _ m1 m2 c1 s1 c2 s2 ms _ _ s2 hms hs1 hs2 rfl ee (by omega) (by rw [sumC_diff hm]; exact adf_le hfit hc2) (fun w nz sz cz Pv hP hnf => addFint_lt_more m1 m2 nz c1 s1 c2 s2 w hP ms hs1 hs2 hc1 hc2 h hfit hm hsum sz cz Pv (by rw [sumS_more hm hsum, sumC_diff hm] at hnf; exact hnf))
    · exact .inl fun w hP hE => addFint_lt_lshno m1 m2 c1 s1 c2 s2 w hP hE ms hs1 hs2 hc1 hc2 h hfit
  · have ea : c1 = c1 * 10 ^ (s2 - s1) := by rw [z0 s2 s1 (by omega)]; simp
    have ee : c2 = c2 * 10 ^ (s1 - s2) := by rw [z0 s1 s2 (by omega)]; simp
    by_cases hm : m1 = m2
    · subst hm
      by_cases hsum : c1 + c2 ≤ 9999999999999999999
      · exact add_core _ _ m1 m1 c1 s1 c2 s2 ms _ _ s1 hms hs1 hs2 ea ee (by omega) (by rw [sumC_same]; exact hsum) (fun w nz sz cz Pv hP hnf => addFint_eq_same m1 m1 nz c1 s1 c2 s2 w hP ms hs1 hs2 hc1 hc2 h rfl hsum sz cz Pv (by rw [sumS_same, sumC_same] at hnf; exact hnf))
      · exact .inl fun w hP hE => addFint_eq_addno m1 m1 c1 s1 c2 s2 w hP hE ms hs1 hs2 hc1 hc2 h rfl hsum
    · by_cases hsum : c1 < c2
      · exact add_core _ _ m1 m2 c1 s1 c2 s2 ms _ _ s1 hms hs1 hs2 ea ee (by omega) (by rw [sumC_diff hm]; exact adf_le hc1 hc2) (fun w nz sz cz Pv hP hnf => addFint_eq_less m1 m2 nz c1 s1 c2 s2 w hP ms hs1 hs2 hc1 hc2 h hm hsum sz cz Pv (by rw [sumS_less hm hsum, sumC_diff hm] at hnf; exact hnf))
      · exact add_core _ _ m1 m2 c1 s1 c2 s2 ms _ _ s1 hms hs1 hs2 ea ee (by omega) (by rw [sumC_diff hm]; exact adf_le hc1 hc2) (fun w nz sz cz Pv hP hnf => addFint_eq_more m1 m2 nz c1 s1 c2 s2 w hP ms hs1 hs2 hc1 hc2 h hm hsum sz cz Pv (by rw [sumS_more hm hsum, sumC_diff hm] at hnf; exact hnf))
  · have ea : c1 = c1 * 10 ^ (s2 - s1) := by rw [z0 s2 s1 (by omega)]; simp
    by_cases hfit : c2 * 10 ^ (s1 - s2) ≤ 9999999999999999999
    · by_cases hm : m1 = m2
      · subst hm
        by_cases hsum : c1 + c2 * 10 ^ (s1 - s2) ≤ 9999999999999999999
        · exact add_core _ _ m1 m1 c1 s1 c2 s2 ms _ _ s1 hms hs1 hs2 ea rfl (by omega) (by rw [sumC_same]; exact hsum) (fun w nz sz cz Pv hP hnf => addFint_gt_same m1 m1 nz c1 s1 c2 s2 w hP ms hs1 hs2 hc1 hc2 h hfit rfl hsum sz cz Pv (by rw [sumS_same, sumC_same] at hnf; exact hnf))
        · exact .inl fun w hP hE => addFint_gt_addno m1 m1 c1 s1 c2 s2 w hP hE ms hs1 hs2 hc1 hc2 h hfit rfl hsum
      · by_cases hsum : c1 < c2 * 10 ^ (s1 - s2)
        · exact add_core _ _ m1 m2 c1 s1 c2 s2 ms _ _ s1 hms hs1 hs2 ea rfl (by omega) (by rw [sumC_diff hm]; exact adf_le hc1 hfit) (fun w nz sz cz Pv hP hnf => addFint_gt_less m1 m2 nz c1 s1 c2 s2 w hP ms hs1 hs2 hc1 hc2 h hfit hm hsum sz cz Pv (by rw [sumS_less hm hsum, sumC_diff hm] at hnf; exact hnf))
        · exact add_core _ _ m1 m2 c1 s1 c2 s2 ms _ _ s1 hms hs1 hs2 ea rfl (by omega) (by rw [sumC_diff hm]; exact adf_le hc1 hfit) (fun w nz sz cz Pv hP hnf => addFint_gt_more m1 m2 nz c1 s1 c2 s2 w hP ms hs1 hs2 hc1 hc2 h hfit hm hsum sz cz Pv (by rw [sumS_more hm hsum, sumC_diff hm] at hnf; exact hnf))
    · exact .inl fun w hP hE => addFint_gt_lshno m1 m2 c1 s1 c2 s2 w hP hE ms hs1 hs2 hc1 hc2 h hfit

theorem mulFint_law (m1 m2 : Bool) (c1 s1 c2 s2 ms : Nat) (hms : ms ≤ 19) (hs1 : s1 ≤ 19) (hs2 : s2 ≤ 19) (hc1 : c1 ≤ 9999999999999999999) (hc2 : c2 ≤ 9999999999999999999) :
    (∀ w, Pow10s w → ErrIs w → Calls Tryz.prog 103 #[gd m1 s1 c1, gd m2 s2 c2, .int .i64 ms] w (ClampErr w)) ∨
    ∃ nz sz cz, (∀ w, Pow10s w → ErrIs w → Calls Tryz.prog 103 #[gd m1 s1 c1, gd m2 s2 c2, .int .i64 ms] w (VRet w (.tuple #[gd nz sz cz, .nilIface]))) ∧ ResOK (zfix m1 c1 * zfix m2 c2) (10 ^ s1 * 10 ^ s2) ms nz sz cz := by
  have hd : 0 < 10 ^ s1 * 10 ^ s2 := Nat.mul_pos (Nat.pow_pos (by omega)) (Nat.pow_pos (by omega))
  by_cases hfit : c1 * c2 ≤ 9999999999999999999
  · rcases nf_law (m1 != m2) (c1 * c2) (s1 + s2) ms hfit (by omega) hms with herr | ⟨s, c, hok, hle, hgood⟩
    · exact .inl fun w hP hE => (mulFint_go m1 m2 false c1 s1 c2 s2 w ms hs1 hs2 hc1 hc2 hfit 0 0 AnErr (fun W hW => (herr W (hP.fresh hW) (hE.fresh hW)).mono (fun _ _ h => DOut.of_err h))).mono (fun _ _ h => h.err)
    · refine .inr ⟨_, s, c, fun w hP hE => (mulFint_go m1 m2 _ c1 s1 c2 s2 w ms hs1 hs2 hc1 hc2 hfit s c NoErr (fun W hW => (hok W (hP.fresh hW)).mono (fun _ _ h => DOut.of_ok h))).mono (fun _ _ h => h.ok), ?_⟩
      have hsn := mul_sign m1 m2 c1 c2
      exact res_ok hd (hgood _ _ hd (mul_frac m1 m2 c1 s1 c2 s2)) hle hsn.1 hsn.2
  · exact .inl fun w hP hE => mulFint_no m1 m2 c1 s1 c2 s2 w hE ms hs1 hs2 hc1 hc2 hfit

end Go.Proofs.YtibaeafmgncjdaaGreatDoor

/- govalues' doors ZzAddSmall, ZzMulSmall. -/
namespace Go.Proofs.YtibaeafmgncjdaaGreatDoor
open Go.RowKit

set_option maxRecDepth 20000 in
set_option maxHeartbeats 2000000 in
theorem ZzAddSmall_go (m1 m2 nz : Bool) (c1 s1 c2 s2 ms : Nat) (w : World) (sz cz : Nat) (Pv : Value → Prop) (hnf : ∀ W, Fresh w W → Calls Tryz.prog 102 #[gd m1 s1 c1, gd m2 s2 c2, .int .i64 ms] W (DOut W nz sz cz Pv)) :
    Calls Tryz.prog 67 #[gd m1 s1 c1, gd m2 s2 c2, .int .i64 ms] w (DOut w nz sz cz Pv) := by
  obtain ⟨g, hg⟩ : ∃ g, g = w.heap.size := ⟨_, rfl⟩
  have bx := boxes3 w #[.bool m1, .int .i8 s1, .int .u64 c1] #[.bool m2, .int .i8 s2, .int .u64 c2] #[.bool false, .int .i8 0, .int .u64 0] 62 62 62 g hg
  have H_bx := Lib.hid bx; clear bx
  have H_hnf := Lib.hid hnf; clear hnf
  go_enter Tryz.func67, Tryz.ntmps67
  go_wp2_with (fail)
  generalize hw1 : ((w.alloc _).alloc _).alloc _ = w1
  rw [← hg]
  obtain ⟨r1, r2, r3, fa, _⟩ := H_bx.out w1 hw1
  have k0 := row_cell r1 0
  have k1 := row_cell r1 1
  have k2 := row_cell r1 2
  have k3 := row_cell r2 0
  have k4 := row_cell r2 1
  have k5 := row_cell r2 2
  simp at k0 k1 k2 k3 k4 k5
  have H_r1 := Lib.hid r1; clear r1
  have H_r2 := Lib.hid r2; clear r2
  have H_r3 := Lib.hid r3; clear r3
  have H_fa := Lib.hid fa; clear fa
  have H_hw1 := Lib.hid hw1; clear hw1
  have H_hg := Lib.hid hg; clear hg
  go_wp2_with (fail)
  refine (H_hnf.out _ H_fa.out).mono ?_
  rintro e w2 ⟨ev, rfl, hev, f9⟩
  have r3 := row_fresh H_r3.out f9
  have p0 := row_cell r3 0
  have p1 := row_cell r3 1
  have p2 := row_cell r3 2
  simp at p0 p1 p2
  have z0 : w2.frozen? ⟨g + 1 + 1, 0, none⟩ = false := frozen_of_row _ _ _ _ _ r3
  have z1 : w2.frozen? ⟨g + 1 + 1, 1, none⟩ = false := frozen_of_row _ _ _ _ _ r3
  have z2 : w2.frozen? ⟨g + 1 + 1, 2, none⟩ = false := frozen_of_row _ _ _ _ _ r3
  have fa := fresh_trans H_fa.out f9
  clear H_r3 H_fa f9 k0 k1 k2 k3 k4 k5
  have H_r3 := Lib.hid r3; clear r3
  have H_fa := Lib.hid fa; clear fa
  have H_hev := Lib.hid hev; clear hev
  go_wp2_with (fail)
  refine bodyPost_ret (results_cell_tmp_row rfl _ _ (g + 1 + 1) 62 #[.bool nz, .int .i8 sz, .int .u64 cz] (0, 0) _ rfl (row_set (row_set (row_set H_r3.out))) Tryz.underlying62 rfl (by kernel_rfl)) rfl ?_
  exact ⟨ev, rfl, H_hev.out, Fresh.set3 H_fa.out (by have := H_hg.out; omega)⟩

set_option maxRecDepth 20000 in
set_option maxHeartbeats 2000000 in
theorem ZzMulSmall_go (m1 m2 nz : Bool) (c1 s1 c2 s2 ms : Nat) (w : World) (sz cz : Nat) (Pv : Value → Prop) (hnf : ∀ W, Fresh w W → Calls Tryz.prog 103 #[gd m1 s1 c1, gd m2 s2 c2, .int .i64 ms] W (DOut W nz sz cz Pv)) :
    Calls Tryz.prog 69 #[gd m1 s1 c1, gd m2 s2 c2, .int .i64 ms] w (DOut w nz sz cz Pv) := by
  obtain ⟨g, hg⟩ : ∃ g, g = w.heap.size := ⟨_, rfl⟩
  have bx := boxes3 w #[.bool m1, .int .i8 s1, .int .u64 c1] #[.bool m2, .int .i8 s2, .int .u64 c2] #[.bool false, .int .i8 0, .int .u64 0] 62 62 62 g hg
  have H_bx := Lib.hid bx; clear bx
  have H_hnf := Lib.hid hnf; clear hnf
  go_enter Tryz.func69, Tryz.ntmps69
  go_wp2_with (fail)
  generalize hw1 : ((w.alloc _).alloc _).alloc _ = w1
  rw [← hg]
  obtain ⟨r1, r2, r3, fa, _⟩ := H_bx.out w1 hw1
  have k0 := row_cell r1 0
  have k1 := row_cell r1 1
  have k2 := row_cell r1 2
  have k3 := row_cell r2 0
  have k4 := row_cell r2 1
  have k5 := row_cell r2 2
  simp at k0 k1 k2 k3 k4 k5
  have H_r1 := Lib.hid r1; clear r1
  have H_r2 := Lib.hid r2; clear r2
  have H_r3 := Lib.hid r3; clear r3
  have H_fa := Lib.hid fa; clear fa
  have H_hw1 := Lib.hid hw1; clear hw1
  have H_hg := Lib.hid hg; clear hg
  go_wp2_with (fail)
  refine (H_hnf.out _ H_fa.out).mono ?_
  rintro e w2 ⟨ev, rfl, hev, f9⟩
  have r3 := row_fresh H_r3.out f9
  have p0 := row_cell r3 0
  have p1 := row_cell r3 1
  have p2 := row_cell r3 2
  simp at p0 p1 p2
  have z0 : w2.frozen? ⟨g + 1 + 1, 0, none⟩ = false := frozen_of_row _ _ _ _ _ r3
  have z1 : w2.frozen? ⟨g + 1 + 1, 1, none⟩ = false := frozen_of_row _ _ _ _ _ r3
  have z2 : w2.frozen? ⟨g + 1 + 1, 2, none⟩ = false := frozen_of_row _ _ _ _ _ r3
  have fa := fresh_trans H_fa.out f9
  clear H_r3 H_fa f9 k0 k1 k2 k3 k4 k5
  have H_r3 := Lib.hid r3; clear r3
  have H_fa := Lib.hid fa; clear fa
  have H_hev := Lib.hid hev; clear hev
  go_wp2_with (fail)
  refine bodyPost_ret (results_cell_tmp_row rfl _ _ (g + 1 + 1) 62 #[.bool nz, .int .i8 sz, .int .u64 cz] (0, 0) _ rfl (row_set (row_set (row_set H_r3.out))) Tryz.underlying62 rfl (by kernel_rfl)) rfl ?_
  exact ⟨ev, rfl, H_hev.out, Fresh.set3 H_fa.out (by have := H_hg.out; omega)⟩

end Go.Proofs.YtibaeafmgncjdaaGreatDoor
