/- govalues: newFromFint. -/
import Derived.Test.YtjdfapoomjeabaaGreatDoorK15
import Derived.Test.YtjdfapoomjeabaaGreatDoorK17
namespace Go.Proofs.YtjdfapoomjeabaaGreatDoor
open Go.RowKit

theorem ErrIs.lt {w : World} {a : Addr} (h : w.cell? ⟨0, 0, none⟩ = some (.iface 91 (.pointer (some a)))) : 0 < w.heap.size := World.block_lt_of_cell? _ _ h

set_option maxRecDepth 20000 in
set_option maxHeartbeats 2000000 in
theorem newFromFint_lt (neg : Bool) (C S ms : Nat) (w : World) (hP : Pow10s w) (hC : C ≤ 9999999999999999999) (h1 : S < ms) (h2 : ms ≤ 19) (hfit : C * 10 ^ (ms - S) ≤ 9999999999999999999) :
    Calls Tryz.prog 100 #[.bool neg, .int .u64 C, .int .i64 S, .int .i64 ms] w (VRet w (.tuple #[gd (neg && decide (0 < C * 10 ^ (ms - S))) ms (C * 10 ^ (ms - S)), .nilIface])) := by
  obtain ⟨g, hg⟩ : ∃ g, g = w.heap.size := ⟨_, rfl⟩
  have bx := box1 w #[.bool false, .int .i8 0, .int .u64 0] 50 g hg
  have t1 : decide ((S : Int) < (ms : Int)) = true := by simp; omega
  have hsub : (ms : Int) - (S : Int) = ((ms - S : Nat) : Int) := by omega
  have hlsh := fun W (hW : Fresh w W) => flsh_any C (ms - S) W (hP.fresh hW) hC (by omega)
  obtain ⟨k, hk⟩ : ∃ k, k = ms - S := ⟨_, rfl⟩
  rw [← hk] at hsub hlsh hfit ⊢
  have hkw : IntKind.i64.wrap (k : Int) = (k : Int) := wrap_nat k (by omega)
  obtain ⟨c, hc⟩ : ∃ c, c = C * 10 ^ k := ⟨_, rfl⟩
  rw [← hc] at hlsh hfit ⊢
  have hm : mulTo c = .tuple #[.int .u64 c, .bool true] := by unfold mulTo; rw [if_pos hfit]
  rw [hm] at hlsh
  clear hm hc hk
  have hsafe := fun W => newSafe_any neg ms c W h2 hfit
  have H_bx := Lib.hid bx; clear bx
  have H_hlsh := Lib.hid hlsh; clear hlsh
  have H_hsafe := Lib.hid hsafe; clear hsafe
  have H_hP := Lib.hid hP; clear hP
  go_enter Tryz.func100, Tryz.ntmps100
  go_wp2_with (fail)
  generalize hw1 : w.alloc _ = w1
  rw [← hg]
  obtain ⟨b1, hf⟩ := H_bx.out w1 hw1
  have H_b1 := Lib.hid b1; clear b1
  have H_hf := Lib.hid hf; clear hf
  have H_hw1 := Lib.hid hw1; clear hw1
  have H_hg := Lib.hid hg; clear hg
  go_wp2_with (fail)
  refine (H_hlsh.out _ H_hf.out).mono ?_
  rintro e w2 ⟨rfl, rfl⟩
  go_wp2_with (fail)
  refine (H_hsafe.out _).mono ?_
  rintro e w3 ⟨rfl, f3⟩
  have b1 := row_fresh H_b1.out f3
  have p0 := row_cell b1 0
  have p1 := row_cell b1 1
  have p2 := row_cell b1 2
  simp at p0 p1 p2
  have z0 : w3.frozen? ⟨g, 0, none⟩ = false := frozen_of_row _ _ _ _ _ b1
  have z1 : w3.frozen? ⟨g, 1, none⟩ = false := frozen_of_row _ _ _ _ _ b1
  have z2 : w3.frozen? ⟨g, 2, none⟩ = false := frozen_of_row _ _ _ _ _ b1
  clear H_b1
  obtain ⟨bn, hbn⟩ : ∃ b, b = (neg && decide (0 < c)) := ⟨_, rfl⟩
  rw [← hbn]
  have H_b1 := Lib.hid b1; clear b1
  have H_hbn := Lib.hid hbn; clear hbn
  go_wp2_with (fail)
  refine bodyPost_ret (results_cell_tmp_row rfl _ _ g 50 #[.bool bn, .int .i8 ms, .int .u64 c] (0, 0) _ rfl (row_set (row_set (row_set H_b1.out))) Tryz.underlying50 rfl (by kernel_rfl)) rfl ?_
  exact ⟨by rw [← H_hbn.out]; rfl, Fresh.set3 (fresh_trans H_hf.out f3) (by have := H_hg.out; omega)⟩

set_option maxRecDepth 20000 in
set_option maxHeartbeats 2000000 in
theorem newFromFint_no (neg : Bool) (C S ms : Nat) (w : World) (hP : Pow10s w) (hE : ErrIs w) (hC : C ≤ 9999999999999999999) (h1 : S < ms) (h2 : ms ≤ 19) (hfit : ¬ C * 10 ^ (ms - S) ≤ 9999999999999999999) :
    Calls Tryz.prog 100 #[.bool neg, .int .u64 C, .int .i64 S, .int .i64 ms] w (ClampErr w) := by
  obtain ⟨g, hg⟩ : ∃ g, g = w.heap.size := ⟨_, rfl⟩
  have bx := box1 w #[.bool false, .int .i8 0, .int .u64 0] 50 g hg
  have t1 : decide ((S : Int) < (ms : Int)) = true := by simp; omega
  have hsub : (ms : Int) - (S : Int) = ((ms - S : Nat) : Int) := by omega
  have hlsh := fun W (hW : Fresh w W) => flsh_any C (ms - S) W (hP.fresh hW) hC (by omega)
  obtain ⟨k, hk⟩ : ∃ k, k = ms - S := ⟨_, rfl⟩
  rw [← hk] at hsub hlsh hfit
  have hkw : IntKind.i64.wrap (k : Int) = (k : Int) := wrap_nat k (by omega)
  obtain ⟨c, hc⟩ : ∃ c, c = C * 10 ^ k := ⟨_, rfl⟩
  rw [← hc] at hlsh hfit
  have hm : mulTo c = .tuple #[.int .u64 0, .bool false] := by unfold mulTo; rw [if_neg hfit]
  rw [hm] at hlsh
  clear hm hc hk
  clear hfit
  have H_bx := Lib.hid bx; clear bx
  have H_hlsh := Lib.hid hlsh; clear hlsh
  have H_hP := Lib.hid hP; clear hP
  have H_hE := Lib.hid hE; clear hE
  go_enter Tryz.func100, Tryz.ntmps100
  go_wp2_with (fail)
  generalize hw1 : w.alloc _ = w1
  rw [← hg]
  obtain ⟨b1, hf⟩ := H_bx.out w1 hw1
  have H_b1 := Lib.hid b1; clear b1
  have H_hf := Lib.hid hf; clear hf
  have H_hw1 := Lib.hid hw1; clear hw1
  have H_hg := Lib.hid hg; clear hg
  go_wp2_with (fail)
  refine (H_hlsh.out _ H_hf.out).mono ?_
  rintro e w2 ⟨rfl, rfl⟩
  obtain ⟨ae, hae⟩ := H_hE.out.fresh H_hf.out
  have hne : 0 ≠ g := by
    obtain ⟨_, h0⟩ := H_hE.out
    have := ErrIs.lt h0
    have := H_hg.out
    omega
  have p0 := row_cell H_b1.out 0
  have p1 := row_cell H_b1.out 1
  have p2 := row_cell H_b1.out 2
  simp at p0 p1 p2
  have z0 : w2.frozen? ⟨g, 0, none⟩ = false := frozen_of_row _ _ _ _ _ H_b1.out
  have z1 : w2.frozen? ⟨g, 1, none⟩ = false := frozen_of_row _ _ _ _ _ H_b1.out
  have z2 : w2.frozen? ⟨g, 2, none⟩ = false := frozen_of_row _ _ _ _ _ H_b1.out
  go_wp2_with (fail)
  go_region_held3 (fun (w' : World) => w'.cell? ⟨0, 0, none⟩ = some (.iface 91 (.pointer (some ae)))) (first | exact hae | exact far3 hne hae) (fail)
  go_wp2
  refine bodyPost_ret (results_cell_tmp_row rfl _ _ g 50 #[.bool false, .int .i8 0, .int .u64 0] (0, 0) _ rfl (row_set (row_set (row_set H_b1.out))) Tryz.underlying50 rfl (by kernel_rfl)) rfl ?_
  exact ⟨ae, rfl, Fresh.set3 (H_hf.out.drewN 1) (by have := H_hg.out; omega)⟩

set_option maxRecDepth 20000 in
set_option maxHeartbeats 2000000 in
theorem newFromFint_gt (neg : Bool) (C S ms : Nat) (w : World) (hP : Pow10s w) (hC : C ≤ 9999999999999999999) (h1 : ms ≤ S) (h2 : 19 < S) (hS : S ≤ 38) :
    Calls Tryz.prog 100 #[.bool neg, .int .u64 C, .int .i64 S, .int .i64 ms] w (VRet w (.tuple #[gd (neg && decide (0 < rhe C (10 ^ (S - 19)))) 19 (rhe C (10 ^ (S - 19))), .nilIface])) := by
  obtain ⟨g, hg⟩ : ∃ g, g = w.heap.size := ⟨_, rfl⟩
  have bx := box1 w #[.bool false, .int .i8 0, .int .u64 0] 50 g hg
  have t1 : decide ((S : Int) < (ms : Int)) = false := by simp; omega
  have t1n : ¬ S < ms := by omega
  have t2 : decide (19 < (S : Int)) = true := by simp; omega
  have hsub : (S : Int) - 19 = ((S - 19 : Nat) : Int) := by omega
  have hrsh := fun W (hW : Fresh w W) => frsh_any C (S - 19) W (hP.fresh hW) hC (by omega)
  have hcle : rhe C (10 ^ (S - 19)) ≤ 9999999999999999999 := by
    rcases Nat.eq_zero_or_pos (S - 19) with h | h
    · omega
    · have h5 : 10 ^ 1 ≤ 10 ^ (S - 19) := Nat.pow_le_pow_right (by omega) h
      have h6 := rhe_le C (10 ^ (S - 19))
      have h7 : C / 10 ^ (S - 19) ≤ C / 10 ^ 1 := Nat.div_le_div_left h5 (by decide)
      omega
  obtain ⟨k, hk⟩ : ∃ k, k = S - 19 := ⟨_, rfl⟩
  rw [← hk] at hsub hrsh hcle ⊢
  have hkw : IntKind.i64.wrap (k : Int) = (k : Int) := wrap_nat k (by omega)
  obtain ⟨c, hc⟩ : ∃ c, c = rhe C (10 ^ k) := ⟨_, rfl⟩
  rw [← hc] at hrsh hcle ⊢
  clear hc hk
  have hsafe := fun W => newSafe_any neg 19 c W (by omega) hcle
  have H_bx := Lib.hid bx; clear bx
  have H_hrsh := Lib.hid hrsh; clear hrsh
  have H_hsafe := Lib.hid hsafe; clear hsafe
  have H_hP := Lib.hid hP; clear hP
  go_enter Tryz.func100, Tryz.ntmps100
  go_wp2_with (fail)
  generalize hw1 : w.alloc _ = w1
  rw [← hg]
  obtain ⟨b1, hf⟩ := H_bx.out w1 hw1
  have H_b1 := Lib.hid b1; clear b1
  have H_hf := Lib.hid hf; clear hf
  have H_hw1 := Lib.hid hw1; clear hw1
  have H_hg := Lib.hid hg; clear hg
  go_wp2_with (fail)
  refine (H_hrsh.out _ H_hf.out).mono ?_
  rintro e w2 ⟨rfl, rfl⟩
  go_wp2_with (fail)
  refine (H_hsafe.out _).mono ?_
  rintro e w3 ⟨rfl, f3⟩
  have b1 := row_fresh H_b1.out f3
  have p0 := row_cell b1 0
  have p1 := row_cell b1 1
  have p2 := row_cell b1 2
  simp at p0 p1 p2
  have z0 : w3.frozen? ⟨g, 0, none⟩ = false := frozen_of_row _ _ _ _ _ b1
  have z1 : w3.frozen? ⟨g, 1, none⟩ = false := frozen_of_row _ _ _ _ _ b1
  have z2 : w3.frozen? ⟨g, 2, none⟩ = false := frozen_of_row _ _ _ _ _ b1
  clear H_b1
  obtain ⟨bn, hbn⟩ : ∃ b, b = (neg && decide (0 < c)) := ⟨_, rfl⟩
  rw [← hbn]
  have H_b1 := Lib.hid b1; clear b1
  have H_hbn := Lib.hid hbn; clear hbn
  go_wp2_with (fail)
  refine bodyPost_ret (results_cell_tmp_row rfl _ _ g 50 #[.bool bn, .int .i8 19, .int .u64 c] (0, 0) _ rfl (row_set (row_set (row_set H_b1.out))) Tryz.underlying50 rfl (by kernel_rfl)) rfl ?_
  exact ⟨by rw [← H_hbn.out]; rfl, Fresh.set3 (fresh_trans H_hf.out f3) (by have := H_hg.out; omega)⟩

set_option maxRecDepth 20000 in
set_option maxHeartbeats 2000000 in
theorem newFromFint_mid (neg : Bool) (C S ms : Nat) (w : World) (hP : Pow10s w) (hC : C ≤ 9999999999999999999) (h1 : ms ≤ S) (h2 : S ≤ 19) :
    Calls Tryz.prog 100 #[.bool neg, .int .u64 C, .int .i64 S, .int .i64 ms] w (VRet w (.tuple #[gd (neg && decide (0 < C)) S (C), .nilIface])) := by
  obtain ⟨g, hg⟩ : ∃ g, g = w.heap.size := ⟨_, rfl⟩
  have bx := box1 w #[.bool false, .int .i8 0, .int .u64 0] 50 g hg
  have t1 : decide ((S : Int) < (ms : Int)) = false := by simp; omega
  have t1n : ¬ S < ms := by omega
  have t2 : decide (19 < (S : Int)) = false := by simp; omega
  have hsafe := fun W => newSafe_any neg S C W h2 hC
  have H_bx := Lib.hid bx; clear bx
  have H_hsafe := Lib.hid hsafe; clear hsafe
  have H_hP := Lib.hid hP; clear hP
  go_enter Tryz.func100, Tryz.ntmps100
  go_wp2_with (fail)
  generalize hw1 : w.alloc _ = w1
  rw [← hg]
  obtain ⟨b1, hf⟩ := H_bx.out w1 hw1
  have H_b1 := Lib.hid b1; clear b1
  have H_hf := Lib.hid hf; clear hf
  have H_hw1 := Lib.hid hw1; clear hw1
  have H_hg := Lib.hid hg; clear hg
  go_wp2_with (fail)
  refine (H_hsafe.out _).mono ?_
  rintro e w3 ⟨rfl, f3⟩
  have b1 := row_fresh H_b1.out f3
  have p0 := row_cell b1 0
  have p1 := row_cell b1 1
  have p2 := row_cell b1 2
  simp at p0 p1 p2
  have z0 : w3.frozen? ⟨g, 0, none⟩ = false := frozen_of_row _ _ _ _ _ b1
  have z1 : w3.frozen? ⟨g, 1, none⟩ = false := frozen_of_row _ _ _ _ _ b1
  have z2 : w3.frozen? ⟨g, 2, none⟩ = false := frozen_of_row _ _ _ _ _ b1
  clear H_b1
  obtain ⟨bn, hbn⟩ : ∃ b, b = (neg && decide (0 < C)) := ⟨_, rfl⟩
  rw [← hbn]
  have H_b1 := Lib.hid b1; clear b1
  have H_hbn := Lib.hid hbn; clear hbn
  go_wp2_with (fail)
  refine bodyPost_ret (results_cell_tmp_row rfl _ _ g 50 #[.bool bn, .int .i8 S, .int .u64 C] (0, 0) _ rfl (row_set (row_set (row_set H_b1.out))) Tryz.underlying50 rfl (by kernel_rfl)) rfl ?_
  exact ⟨by rw [← H_hbn.out]; rfl, Fresh.set3 (fresh_trans H_hf.out f3) (by have := H_hg.out; omega)⟩

end Go.Proofs.YtjdfapoomjeabaaGreatDoor

/- newFromFint: a result, or a fault. -/
namespace Go.Proofs.YtjdfapoomjeabaaGreatDoor
open Go.RowKit

theorem nf_law (neg : Bool) (C S ms : Nat) (hC : C ≤ 9999999999999999999) (hS : S ≤ 38) (hms : ms ≤ 19) :
    (∀ w, Pow10s w → ErrIs w → Calls Tryz.prog 100 #[.bool neg, .int .u64 C, .int .i64 S, .int .i64 ms] w (ClampErr w)) ∨
    ∃ s c, (∀ w, Pow10s w → Calls Tryz.prog 100 #[.bool neg, .int .u64 C, .int .i64 S, .int .i64 ms] w (VRet w (.tuple #[gd (neg && decide (0 < c)) s c, .nilIface]))) ∧ ms ≤ s ∧ (∀ N d, 0 < d → N * 10 ^ S = C * d → Good N d c s) := by
  rcases Nat.lt_or_ge S ms with h | h
  · by_cases hfit : C * 10 ^ (ms - S) ≤ 9999999999999999999
    · exact .inr ⟨ms, _, fun w hP => newFromFint_lt neg C S ms w hP hC h hms hfit, Nat.le_refl _, fun N d hd hN => good_exact hN (by omega) hms hfit⟩
    · exact .inl fun w hP hE => newFromFint_no neg C S ms w hP hE hC h hms hfit
  · rcases Nat.lt_or_ge 19 S with h2 | h2
    · refine .inr ⟨19, _, fun w hP => newFromFint_gt neg C S ms w hP hC h h2 hS, hms, fun N d hd hN => good_cut hN hd (by omega) ?_⟩
      have h5 : 10 ^ 1 ≤ 10 ^ (S - 19) := Nat.pow_le_pow_right (by omega) (by omega)
      have h6 := rhe_le C (10 ^ (S - 19))
      have h7 : C / 10 ^ (S - 19) ≤ C / 10 ^ 1 := Nat.div_le_div_left h5 (by decide)
      omega
    · exact .inr ⟨S, C, fun w hP => newFromFint_mid neg C S ms w hP hC h h2, h, fun N d hd hN => good_same hN h2 hC⟩

end Go.Proofs.YtjdfapoomjeabaaGreatDoor
