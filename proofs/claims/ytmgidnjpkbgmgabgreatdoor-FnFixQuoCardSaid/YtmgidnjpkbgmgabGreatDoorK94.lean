/- govalues: newFromFint at scales below 0 and above 38. -/
import Derived.Test.YtmgidnjpkbgmgabGreatDoorK14
import Derived.Test.YtmgidnjpkbgmgabGreatDoorK44
import Derived.Test.YtmgidnjpkbgmgabGreatDoorK48
import Derived.Test.YtmgidnjpkbgmgabGreatDoorK85
import Derived.Test.YtmgidnjpkbgmgabGreatDoorK86
import Derived.Test.YtmgidnjpkbgmgabGreatDoorK88
import Derived.Test.YtmgidnjpkbgmgabGreatDoorK93
namespace Go.Proofs.YtmgidnjpkbgmgabGreatDoor
open Go.RowKit

theorem rhe_far {x k : Nat} (hx : x ≤ 9999999999999999999) (hk : 20 ≤ k) : rhe x (10 ^ k) = 0 := by
  have h1 : 10 ^ 20 ≤ 10 ^ k := Nat.pow_le_pow_right (by omega) hk
  unfold rhe
  rw [Nat.div_eq_of_lt (by omega), Nat.mod_eq_of_lt (by omega), if_neg (by omega)]

theorem frsh_all (x k : Nat) (w : World) (hP : Pow10s w) (hx : x ≤ 9999999999999999999) (hk : k ≤ 100) :
    Calls Tryz.prog 140 #[.int .u64 x, .int .i64 k] w (fun e w' => e = .returned (.int .u64 (rhe x (10 ^ k) : Nat)) ∧ w' = w) := by
  rcases Nat.lt_or_ge 19 k with h | h
  · rw [rhe_far hx h]
    have t1 : decide ((k : Int) ≤ 0) = false := by simp; omega
    have t2 : decide ((20 : Int) ≤ (k : Int)) = true := by simp; omega
    clear hP
    rcases Nat.eq_zero_or_pos x with h0 | h0
    · subst h0
      go_enter Tryz.func140, Tryz.ntmps140
      go_wp2
      go_ret
      exact ⟨rfl, rfl⟩
    · have t0 : ((x : Int) == 0) = false := by rw [beq_eq_false_iff_ne]; omega
      go_enter Tryz.func140, Tryz.ntmps140
      go_wp2
      go_ret
      exact ⟨rfl, rfl⟩
  · exact frsh_any x k w hP hx h

set_option maxRecDepth 20000 in
set_option maxHeartbeats 2000000 in
theorem newFromFintI_lt (neg : Bool) (C ms k : Nat) (S : Int) (w : World) (hP : Pow10s w) (hC : C ≤ 9999999999999999999) (h1 : S < ms) (hsub : (ms : Int) - S = (k : Int)) (hk1 : k ≤ 100) (h2 : ms ≤ 19) (hk19 : k ≤ 19) (hfit : C * 10 ^ k ≤ 9999999999999999999) :
    Calls Tryz.prog 118 #[.bool neg, .int .u64 C, .int .i64 S, .int .i64 ms] w (VRet w (.tuple #[gd (neg && decide (0 < C * 10 ^ (k))) ms (C * 10 ^ (k)), .nilIface])) := by
  obtain ⟨g, hg⟩ : ∃ g, g = w.heap.size := ⟨_, rfl⟩
  have bx := box1 w #[.bool false, .int .i8 0, .int .u64 0] 60 g hg
  have t1 : decide (S < (ms : Int)) = true := by simp; omega
  have hlsh := fun W (hW : Fresh w W) => fsh_any C k W (hP.fresh hW) hC (by omega)
  have hkw : IntKind.i64.wrap (k : Int) = (k : Int) := wrap_nat k (by omega)
  obtain ⟨c, hc⟩ : ∃ c, c = C * 10 ^ k := ⟨_, rfl⟩
  have hm : fshTo C k = .tuple #[.int .u64 c, .bool true] := by unfold fshTo; rw [if_pos hk19, ← hc, mulTo_yes (by rw [hc]; exact hfit)]
  rw [hm] at hlsh
  rw [← hc] at hfit ⊢
  clear hm hc
  have hsafe := fun W => newSafe_any neg ms c W h2 hfit
  have H_bx := Lib.hid bx; clear bx
  have H_hlsh := Lib.hid hlsh; clear hlsh
  have H_hsafe := Lib.hid hsafe; clear hsafe
  have H_hP := Lib.hid hP; clear hP
  go_enter Tryz.func118, Tryz.ntmps118
  go_wp2_with (fail)
  generalize hw1 : w.alloc _ = w1
  rw [← hg]
  obtain ⟨b1, hf⟩ := H_bx.out w1 hw1
  have H_b1 := Lib.hid b1; clear b1
  have H_hf := Lib.hid hf; clear hf
  have H_hw1 := Lib.hid hw1; clear hw1
  have H_hg := Lib.hid hg; clear hg
  go_wp2_with (fail)
  refine (H_hlsh.out _ H_hf.out).mono ?_
  rintro e w2 ⟨rfl, rfl⟩
  go_wp2_with (fail)
  refine (H_hsafe.out _).mono ?_
  rintro e w3 ⟨rfl, f3⟩
  have b1 := row_fresh H_b1.out f3
  have p0 := row_cell b1 0
  have p1 := row_cell b1 1
  have p2 := row_cell b1 2
  simp at p0 p1 p2
  have z0 : w3.frozen? ⟨g, 0, none⟩ = false := frozen_of_row _ _ _ _ _ b1
  have z1 : w3.frozen? ⟨g, 1, none⟩ = false := frozen_of_row _ _ _ _ _ b1
  have z2 : w3.frozen? ⟨g, 2, none⟩ = false := frozen_of_row _ _ _ _ _ b1
  clear H_b1
  obtain ⟨bn, hbn⟩ : ∃ b, b = (neg && decide (0 < c)) := ⟨_, rfl⟩
  rw [← hbn]
  have H_b1 := Lib.hid b1; clear b1
  have H_hbn := Lib.hid hbn; clear hbn
  go_wp2_with (fail)
  refine bodyPost_ret (results_cell_tmp_row rfl _ _ g 60 #[.bool bn, .int .i8 ms, .int .u64 c] (0, 0) _ rfl (row_set (row_set (row_set H_b1.out))) Tryz.underlying60 rfl (by kernel_rfl)) rfl ?_
  exact ⟨by rw [← H_hbn.out]; rfl, Fresh.set3 (fresh_trans H_hf.out f3) (by have := H_hg.out; omega)⟩

set_option maxRecDepth 20000 in
set_option maxHeartbeats 2000000 in
theorem newFromFintI_no (neg : Bool) (C ms k : Nat) (S : Int) (w : World) (hP : Pow10s w) (hE : ErrIs w) (hC : C ≤ 9999999999999999999) (h1 : S < ms) (hsub : (ms : Int) - S = (k : Int)) (hk1 : k ≤ 100) (_h2 : ms ≤ 19) (hfit : ¬ (k ≤ 19 ∧ C * 10 ^ k ≤ 9999999999999999999)) :
    Calls Tryz.prog 118 #[.bool neg, .int .u64 C, .int .i64 S, .int .i64 ms] w (ClampErr w) := by
  obtain ⟨g, hg⟩ : ∃ g, g = w.heap.size := ⟨_, rfl⟩
  have bx := box1 w #[.bool false, .int .i8 0, .int .u64 0] 60 g hg
  have t1 : decide (S < (ms : Int)) = true := by simp; omega
  have hlsh := fun W (hW : Fresh w W) => fsh_any C k W (hP.fresh hW) hC (by omega)
  have hkw : IntKind.i64.wrap (k : Int) = (k : Int) := wrap_nat k (by omega)
  have hm : fshTo C k = .tuple #[.int .u64 0, .bool false] := by
    unfold fshTo
    by_cases h : k ≤ 19
    · rw [if_pos h, mulTo_no (fun h' => hfit ⟨h, h'⟩)]
    · rw [if_neg h]
  rw [hm] at hlsh
  clear hm
  clear hfit
  have H_bx := Lib.hid bx; clear bx
  have H_hlsh := Lib.hid hlsh; clear hlsh
  have H_hP := Lib.hid hP; clear hP
  have H_hE := Lib.hid hE; clear hE
  go_enter Tryz.func118, Tryz.ntmps118
  go_wp2_with (fail)
  generalize hw1 : w.alloc _ = w1
  rw [← hg]
  obtain ⟨b1, hf⟩ := H_bx.out w1 hw1
  have H_b1 := Lib.hid b1; clear b1
  have H_hf := Lib.hid hf; clear hf
  have H_hw1 := Lib.hid hw1; clear hw1
  have H_hg := Lib.hid hg; clear hg
  go_wp2_with (fail)
  refine (H_hlsh.out _ H_hf.out).mono ?_
  rintro e w2 ⟨rfl, rfl⟩
  obtain ⟨ae, hae⟩ := H_hE.out.fresh H_hf.out
  have hne : 1 ≠ g := by
    obtain ⟨_, h0⟩ := H_hE.out
    have := ErrIs.lt h0
    have := H_hg.out
    omega
  have p0 := row_cell H_b1.out 0
  have p1 := row_cell H_b1.out 1
  have p2 := row_cell H_b1.out 2
  simp at p0 p1 p2
  have z0 : w2.frozen? ⟨g, 0, none⟩ = false := frozen_of_row _ _ _ _ _ H_b1.out
  have z1 : w2.frozen? ⟨g, 1, none⟩ = false := frozen_of_row _ _ _ _ _ H_b1.out
  have z2 : w2.frozen? ⟨g, 2, none⟩ = false := frozen_of_row _ _ _ _ _ H_b1.out
  go_wp2_with (fail)
  go_region_held3 (fun (w' : World) => w'.cell? ⟨1, 0, none⟩ = some (.iface 121 (.pointer (some ae)))) (first | exact hae | exact far3 hne hae) (fail)
  go_wp2
  refine bodyPost_ret (results_cell_tmp_row rfl _ _ g 60 #[.bool false, .int .i8 0, .int .u64 0] (0, 0) _ rfl (row_set (row_set (row_set H_b1.out))) Tryz.underlying60 rfl (by kernel_rfl)) rfl ?_
  exact ⟨ae, rfl, Fresh.set3 (H_hf.out.drewN 1) (by have := H_hg.out; omega)⟩

set_option maxRecDepth 20000 in
set_option maxHeartbeats 2000000 in
theorem newFromFintL_gt (neg : Bool) (C S ms : Nat) (w : World) (hP : Pow10s w) (hC : C ≤ 9999999999999999999) (h1 : ms ≤ S) (h2 : 19 < S) (hS : S ≤ 100) :
    Calls Tryz.prog 118 #[.bool neg, .int .u64 C, .int .i64 S, .int .i64 ms] w (VRet w (.tuple #[gd (neg && decide (0 < rhe C (10 ^ (S - 19)))) 19 (rhe C (10 ^ (S - 19))), .nilIface])) := by
  obtain ⟨g, hg⟩ : ∃ g, g = w.heap.size := ⟨_, rfl⟩
  have bx := box1 w #[.bool false, .int .i8 0, .int .u64 0] 60 g hg
  have t1 : decide ((S : Int) < (ms : Int)) = false := by simp; omega
  have t1n : ¬ S < ms := by omega
  have t2 : decide (19 < (S : Int)) = true := by simp; omega
  have hsub : (S : Int) - 19 = ((S - 19 : Nat) : Int) := by omega
  have hrsh := fun W (hW : Fresh w W) => frsh_all C (S - 19) W (hP.fresh hW) hC (by omega)
  have hcle : rhe C (10 ^ (S - 19)) ≤ 9999999999999999999 := by
    rcases Nat.eq_zero_or_pos (S - 19) with h | h
    · omega
    · have h5 : 10 ^ 1 ≤ 10 ^ (S - 19) := Nat.pow_le_pow_right (by omega) h
      have h6 := rhe_le C (10 ^ (S - 19))
      have h7 : C / 10 ^ (S - 19) ≤ C / 10 ^ 1 := Nat.div_le_div_left h5 (by decide)
      omega
  obtain ⟨k, hk⟩ : ∃ k, k = S - 19 := ⟨_, rfl⟩
  rw [← hk] at hsub hrsh hcle ⊢
  have hkw : IntKind.i64.wrap (k : Int) = (k : Int) := wrap_nat k (by omega)
  obtain ⟨c, hc⟩ : ∃ c, c = rhe C (10 ^ k) := ⟨_, rfl⟩
  rw [← hc] at hrsh hcle ⊢
  clear hc hk
  have hsafe := fun W => newSafe_any neg 19 c W (by omega) hcle
  have H_bx := Lib.hid bx; clear bx
  have H_hrsh := Lib.hid hrsh; clear hrsh
  have H_hsafe := Lib.hid hsafe; clear hsafe
  have H_hP := Lib.hid hP; clear hP
  go_enter Tryz.func118, Tryz.ntmps118
  go_wp2_with (fail)
  generalize hw1 : w.alloc _ = w1
  rw [← hg]
  obtain ⟨b1, hf⟩ := H_bx.out w1 hw1
  have H_b1 := Lib.hid b1; clear b1
  have H_hf := Lib.hid hf; clear hf
  have H_hw1 := Lib.hid hw1; clear hw1
  have H_hg := Lib.hid hg; clear hg
  go_wp2_with (fail)
  refine (H_hrsh.out _ H_hf.out).mono ?_
  rintro e w2 ⟨rfl, rfl⟩
  go_wp2_with (fail)
  refine (H_hsafe.out _).mono ?_
  rintro e w3 ⟨rfl, f3⟩
  have b1 := row_fresh H_b1.out f3
  have p0 := row_cell b1 0
  have p1 := row_cell b1 1
  have p2 := row_cell b1 2
  simp at p0 p1 p2
  have z0 : w3.frozen? ⟨g, 0, none⟩ = false := frozen_of_row _ _ _ _ _ b1
  have z1 : w3.frozen? ⟨g, 1, none⟩ = false := frozen_of_row _ _ _ _ _ b1
  have z2 : w3.frozen? ⟨g, 2, none⟩ = false := frozen_of_row _ _ _ _ _ b1
  clear H_b1
  obtain ⟨bn, hbn⟩ : ∃ b, b = (neg && decide (0 < c)) := ⟨_, rfl⟩
  rw [← hbn]
  have H_b1 := Lib.hid b1; clear b1
  have H_hbn := Lib.hid hbn; clear hbn
  go_wp2_with (fail)
  refine bodyPost_ret (results_cell_tmp_row rfl _ _ g 60 #[.bool bn, .int .i8 19, .int .u64 c] (0, 0) _ rfl (row_set (row_set (row_set H_b1.out))) Tryz.underlying60 rfl (by kernel_rfl)) rfl ?_
  exact ⟨by rw [← H_hbn.out]; rfl, Fresh.set3 (fresh_trans H_hf.out f3) (by have := H_hg.out; omega)⟩

theorem nfI_law (neg : Bool) (C ms : Nat) (S : Int) (hC : C ≤ 9999999999999999999) (hlo : -50 ≤ S) (hS : S ≤ 100) (hms : ms ≤ 19) :
    (∀ w, Pow10s w → ErrIs w → Calls Tryz.prog 118 #[.bool neg, .int .u64 C, .int .i64 S, .int .i64 ms] w (ClampErr w)) ∨
    ∃ s c, (∀ w, Pow10s w → Calls Tryz.prog 118 #[.bool neg, .int .u64 C, .int .i64 S, .int .i64 ms] w (VRet w (.tuple #[gd (neg && decide (0 < c)) s c, .nilIface]))) ∧ ms ≤ s ∧
      (∀ N d, 0 < d → N * 10 ^ S.toNat = C * 10 ^ (-S).toNat * d → Good N d c s) := by
  by_cases h : S < ms
  · obtain ⟨k, hk⟩ := Int.eq_ofNat_of_zero_le (show 0 ≤ (ms : Int) - S by omega)
    by_cases hfit : k ≤ 19 ∧ C * 10 ^ k ≤ 9999999999999999999
    · refine .inr ⟨ms, _, fun w hP => newFromFintI_lt neg C ms k S w hP hC h hk (by omega) hms hfit.1 hfit.2, Nat.le_refl _, fun N d hd hN => ⟨hms, hfit.2, .inl ?_⟩⟩
      rcases Int.le_total 0 S with h0 | h0
      · rw [show (-S).toNat = 0 by omega, Nat.pow_zero, Nat.mul_one] at hN
        rw [Nat.mul_right_comm, ← hN, Nat.mul_assoc, ← Nat.pow_add]
        congr 2; omega
      · rw [show S.toNat = 0 by omega, Nat.pow_zero, Nat.mul_one] at hN
        rw [hN, show k = (-S).toNat + ms by omega, Nat.pow_add, ← Nat.mul_assoc, Nat.mul_right_comm]
    · exact .inl fun w hP hE => newFromFintI_no neg C ms k S w hP hE hC h hk (by omega) hms hfit
  · obtain ⟨T, rfl⟩ := Int.eq_ofNat_of_zero_le (show 0 ≤ S by omega)
    have e0 : ∀ N d : Nat, N * 10 ^ (T : Int).toNat = C * 10 ^ (-(T : Int)).toNat * d → N * 10 ^ T = C * d := fun N d hN => by
      rw [show (-(T : Int)).toNat = 0 by omega, Nat.pow_zero, Nat.mul_one, Int.toNat_natCast] at hN
      exact hN
    rcases Nat.lt_or_ge 19 T with h2 | h2
    · refine .inr ⟨19, _, fun w hP => newFromFintL_gt neg C T ms w hP hC (by omega) h2 (by omega), hms, fun N d hd hN => good_cut (e0 N d hN) hd (by omega) ?_⟩
      have h5 : 10 ^ 1 ≤ 10 ^ (T - 19) := Nat.pow_le_pow_right (by omega) (by omega)
      have h6 := rhe_le C (10 ^ (T - 19))
      have h7 : C / 10 ^ (T - 19) ≤ C / 10 ^ 1 := Nat.div_le_div_left h5 (by decide)
      omega
    · exact .inr ⟨T, C, fun w hP => newFromFint_mid neg C T ms w hP hC (by omega) h2, by omega, fun N d hd hN => good_same (e0 N d hN) h2 hC⟩

end Go.Proofs.YtmgidnjpkbgmgabGreatDoor

/- govalues.Decimal.quoFint. -/
namespace Go.Proofs.YtmgidnjpkbgmgabGreatDoor
open Go.RowKit

/-- the fault of a division that does not come out even lies where the program's text lays it -/
def ErrJs (w : World) : Prop := ∃ a : Addr, w.cell? ⟨4, 0, none⟩ = some (.iface 121 (.pointer (some a)))

theorem ErrJs.fresh {w w' : World} (h : ErrJs w) (hf : Fresh w w') : ErrJs w' := by
  obtain ⟨a, h⟩ := h
  exact ⟨a, cell_fresh h hf⟩

theorem ErrJs.lt {w : World} {a : Addr} (h : w.cell? ⟨4, 0, none⟩ = some (.iface 121 (.pointer (some a)))) : 4 < w.heap.size := World.block_lt_of_cell? _ _ h

set_option maxRecDepth 20000 in
set_option maxHeartbeats 4000000 in
theorem quoFint_go (m1 m2 : Bool) (c1 s1 c2 s2 ms p k : Nat) (w : World) (hJ : ErrJs w) (hP : Pow10s w) (hs1 : s1 ≤ 19) (hs2 : s2 ≤ 19) (hc1 : c1 ≤ 9999999999999999999) (hc2 : c2 ≤ 9999999999999999999) (hc20 : 0 < c2)
    (hp : IsPrec c1 p) (hk1 : 10 ^ k ∣ c2) (hk2 : ¬ 10 ^ (k + 1) ∣ c2) (nz : Bool) (sz cz : Nat) (Pv : Value → Prop) (X Y : Nat) (hX : X = c1 * 10 ^ (19 - p)) (hY : Y = c2 / 10 ^ k) (S : Int) (hS : S = (s1 : Int) + ((19 - p : Nat) : Int) + (k : Int) - (s2 : Int))
    (hnf : X % Y = 0 → ∀ W, Fresh w W → Calls Tryz.prog 118 #[.bool (m1 != m2), .int .u64 (X / Y : Nat), .int .i64 S, .int .i64 ms] W (DOut W nz sz cz Pv)) :
    Calls Tryz.prog 120 #[gd m1 s1 c1, gd m2 s2 c2, .int .i64 ms] w (AMOut w (X % Y = 0) nz sz cz Pv) := by
  have hp19 : p ≤ 19 := hp.lt_iff.1 (by omega)
  have hk19 : k ≤ 19 := by
    obtain ⟨q, hq⟩ := hk1
    have h0 : 0 < q := by
      rcases Nat.eq_zero_or_pos q with h | h
      · subst h; omega
      · exact h
    have h1 : 10 ^ k ≤ c2 := by rw [hq]; exact Nat.le_mul_of_pos_right _ h0
    rcases Nat.lt_or_ge 19 k with h | h
    · have : 10 ^ 20 ≤ 10 ^ k := Nat.pow_le_pow_right (by omega) h
      omega
    · exact h
  have hXl : X ≤ 9999999999999999999 := by
    have h1 : c1 * 10 ^ (19 - p) < 10 ^ p * 10 ^ (19 - p) := Nat.mul_lt_mul_of_pos_right hp.1 (Nat.pow_pos (by omega))
    rw [← Nat.pow_add, show p + (19 - p) = 19 by omega, ← hX] at h1
    omega
  have hY0 : 0 < Y := by
    rw [hY]
    obtain ⟨q, hq⟩ := hk1
    rw [hq, Nat.mul_div_cancel_left _ (Nat.pow_pos (by omega))]
    rcases Nat.eq_zero_or_pos q with h | h
    · subst h; omega
    · exact h
  have hYl : Y ≤ 9999999999999999999 := by rw [hY]; exact Nat.le_trans (Nat.div_le_self _ _) hc2
  have hprec := fun W (hW : Fresh w W) => prec_any c1 p W (hP.fresh hW) (by omega) hp
  have hntz := fun W (hW : Fresh w W) => ntz_any c2 k W (hP.fresh hW) (by omega) hc20 hk1 hk2
  obtain ⟨sh, hsh⟩ : ∃ sh, sh = 19 - p := ⟨_, rfl⟩
  rw [← hsh] at hX hS
  have hshI : (19 : Int) - (p : Int) = (sh : Int) := by omega
  have hshw : IntKind.i64.wrap (sh : Int) = (sh : Int) := wrap_nat sh (by omega)
  have hlsh := fun W (hW : Fresh w W) => flsh_any c1 sh W (hP.fresh hW) hc1 (by omega)
  rw [← hX, mulTo_yes hXl] at hlsh
  obtain ⟨A1, hA1⟩ : ∃ a, a = s1 + sh := ⟨_, rfl⟩
  have hA1I : (s1 : Int) + (sh : Int) = (A1 : Int) := by omega
  have hA1w : IntKind.i64.wrap (A1 : Int) = (A1 : Int) := wrap_nat A1 (by omega)
  obtain ⟨A2, hA2⟩ : ∃ a, a = A1 + k := ⟨_, rfl⟩
  have hA2I : (A1 : Int) + (k : Int) = (A2 : Int) := by omega
  have hA2w : IntKind.i64.wrap (A2 : Int) = (A2 : Int) := wrap_nat A2 (by omega)
  have hSI : (A2 : Int) - (s2 : Int) = S := by omega
  have hSw : IntKind.i64.wrap S = S := by rw [IntKind.wrap_i64]; omega
  have hquo := fun W => fquo_any X Y W hXl hY0 hYl
  obtain ⟨g, hg⟩ : ∃ g, g = w.heap.size := ⟨_, rfl⟩
  have bx := boxes3 w #[.bool m1, .int .i8 s1, .int .u64 c1] #[.bool m2, .int .i8 s2, .int .u64 c2] #[.bool false, .int .i8 0, .int .u64 0] 60 60 60 g hg
  clear hS
  have H_bx := Lib.hid bx; clear bx
  have H_hJ := Lib.hid hJ; clear hJ
  have H_hP := Lib.hid hP; clear hP
  have H_hnf := Lib.hid hnf; clear hnf
  have H_hs1 := Lib.hid hs1; clear hs1
  have H_hs2 := Lib.hid hs2; clear hs2
  have H_hc1 := Lib.hid hc1; clear hc1
  have H_hc2 := Lib.hid hc2; clear hc2
  have H_hc20 := Lib.hid hc20; clear hc20
  have H_hp := Lib.hid hp; clear hp
  have H_hk1 := Lib.hid hk1; clear hk1
  have H_hk2 := Lib.hid hk2; clear hk2
  have H_hX := Lib.hid hX; clear hX
  have H_hY := Lib.hid hY; clear hY
  have H_hp19 := Lib.hid hp19; clear hp19
  have H_hk19 := Lib.hid hk19; clear hk19
  have H_hXl := Lib.hid hXl; clear hXl
  have H_hY0 := Lib.hid hY0; clear hY0
  have H_hYl := Lib.hid hYl; clear hYl
  have H_hprec := Lib.hid hprec; clear hprec
  have H_hntz := Lib.hid hntz; clear hntz
  have H_hsh := Lib.hid hsh; clear hsh
  have H_hlsh := Lib.hid hlsh; clear hlsh
  have H_hA1 := Lib.hid hA1; clear hA1
  have H_hA2 := Lib.hid hA2; clear hA2
  have H_hquo := Lib.hid hquo; clear hquo
  go_enter Tryz.func120, Tryz.ntmps120
  go_wp2_with (fail)
  generalize hw1 : ((w.alloc _).alloc _).alloc _ = w1
  rw [← hg]
  obtain ⟨r1, r2, r3, fa, _⟩ := H_bx.out w1 hw1
  obtain ⟨k0, k1, k2, k3, k4, k5⟩ := cells6 r1 r2
  have H_r1 := Lib.hid r1; clear r1
  have H_r2 := Lib.hid r2; clear r2
  have H_r3 := Lib.hid r3; clear r3
  have H_fa := Lib.hid fa; clear fa
  have H_hw1 := Lib.hid hw1; clear hw1
  have H_hg := Lib.hid hg; clear hg
  go_wp2_with (fail)
  refine (Scale_any m1 s1 c1 _ H_hs1.out).mono ?_
  rintro e w2 ⟨rfl, f9⟩
  have r1 := row_fresh H_r1.out f9
  have r2 := row_fresh H_r2.out f9
  have r3 := row_fresh H_r3.out f9
  have fa := fresh_trans H_fa.out f9
  clear H_r1 H_r2 H_r3 H_fa f9
  clear k0 k1 k2 k3 k4 k5
  obtain ⟨k0, k1, k2, k3, k4, k5⟩ := cells6 r1 r2
  have H_r1 := Lib.hid r1; clear r1
  have H_r2 := Lib.hid r2; clear r2
  have H_r3 := Lib.hid r3; clear r3
  have H_fa := Lib.hid fa; clear fa
  go_wp2_with (fail)
  refine (IsNeg_any m1 s1 c1 _).mono ?_
  rintro e w3 ⟨rfl, f9⟩
  have r1 := row_fresh H_r1.out f9
  have r2 := row_fresh H_r2.out f9
  have r3 := row_fresh H_r3.out f9
  have fa := fresh_trans H_fa.out f9
  clear H_r1 H_r2 H_r3 H_fa f9
  clear k0 k1 k2 k3 k4 k5
  obtain ⟨k0, k1, k2, k3, k4, k5⟩ := cells6 r1 r2
  have H_r1 := Lib.hid r1; clear r1
  have H_r2 := Lib.hid r2; clear r2
  have H_r3 := Lib.hid r3; clear r3
  have H_fa := Lib.hid fa; clear fa
  go_wp2_with (fail)
  refine (H_hprec.out _ H_fa.out).mono ?_
  rintro e w4 ⟨rfl, f9⟩
  have r1 := row_fresh H_r1.out f9
  have r2 := row_fresh H_r2.out f9
  have r3 := row_fresh H_r3.out f9
  have fa := fresh_trans H_fa.out f9
  clear H_r1 H_r2 H_r3 H_fa f9
  clear k0 k1 k2 k3 k4 k5
  obtain ⟨k0, k1, k2, k3, k4, k5⟩ := cells6 r1 r2
  have H_r1 := Lib.hid r1; clear r1
  have H_r2 := Lib.hid r2; clear r2
  have H_r3 := Lib.hid r3; clear r3
  have H_fa := Lib.hid fa; clear fa
  go_upto_if 27 with (fail)
  go_cut [8, 9] from 27 (fun s8 s9 wx => s8 = .int .u64 X ∧ s9 = .int .i64 A1 ∧ wx = w4)
  case first =>
    rcases Nat.eq_zero_or_pos sh with h0 | h0
    · have t0 : decide (0 < sh) = false := by simp; omega
      have hXe : X = c1 := by rw [H_hX.out, h0, Nat.pow_zero, Nat.mul_one]
      have hAe : A1 = s1 := by have := H_hA1.out; omega
      have H_h0 := Lib.hid h0; clear h0
      have H_hXe := Lib.hid hXe; clear hXe
      have H_hAe := Lib.hid hAe; clear hAe
      try rw [t0]
      go_wp2_with (fail)
      go_meet
      case rel => exact ⟨by rw [H_hXe.out], by rw [H_hAe.out], rfl⟩
    · have t0 : decide (0 < sh) = true := by simp; omega
      try rw [t0]
      have H_h0 := Lib.hid h0; clear h0
      go_wp2_with (fail)
      refine (H_hlsh.out _ H_fa.out).mono ?_
      rintro e w5 ⟨rfl, hs⟩
      subst hs
      go_wp2_with (fail)
      go_meet
      case rel => exact ⟨rfl, rfl, rfl⟩
  case rest =>
    obtain ⟨rfl, rfl, hwx⟩ := hcut
    subst hwx
    go_wp2_with (fail)
    refine (H_hntz.out _ H_fa.out).mono ?_
    rintro e w41 ⟨rfl, f9⟩
    have r1 := row_fresh H_r1.out f9
    have r2 := row_fresh H_r2.out f9
    have r3 := row_fresh H_r3.out f9
    have fa := fresh_trans H_fa.out f9
    clear H_r1 H_r2 H_r3 H_fa f9
    clear k0 k1 k2 k3 k4 k5
    obtain ⟨k0, k1, k2, k3, k4, k5⟩ := cells6 r1 r2
    have H_r1 := Lib.hid r1; clear r1
    have H_r2 := Lib.hid r2; clear r2
    have H_r3 := Lib.hid r3; clear r3
    have H_fa := Lib.hid fa; clear fa
    go_upto_if 44 with (fail)
    go_cut [9, 11] from 44 (fun s9 s11 wx => s9 = .int .i64 A2 ∧ s11 = .int .u64 Y ∧ wx = w41)
    case first =>
      rcases Nat.eq_zero_or_pos k with h0 | h0
      · have t0 : decide (0 < k) = false := by simp; omega
        have hYe : Y = c2 := by rw [H_hY.out, h0, Nat.pow_zero, Nat.div_one]
        have hAe : A2 = A1 := by have := H_hA2.out; omega
        have H_h0 := Lib.hid h0; clear h0
        have H_hYe := Lib.hid hYe; clear hYe
        have H_hAe := Lib.hid hAe; clear hAe
        try rw [t0]
        go_wp2_with (fail)
        go_meet
        case rel => exact ⟨by rw [H_hAe.out], by rw [H_hYe.out], rfl⟩
      · have t0 : decide (0 < k) = true := by simp; omega
        have hrd := fun W (hW : Fresh w W) => rshDown_any c2 k W (H_hP.out.fresh hW) H_hc2.out h0 H_hk19.out
        rw [← H_hY.out] at hrd
        try rw [t0]
        have H_h0 := Lib.hid h0; clear h0
        have H_hrd := Lib.hid hrd; clear hrd
        go_wp2_with (fail)
        refine (H_hrd.out _ H_fa.out).mono ?_
        rintro e w51 ⟨rfl, hs⟩
        subst hs
        go_wp2_with (fail)
        go_meet
        case rel => exact ⟨rfl, rfl, rfl⟩
    case rest =>
      obtain ⟨rfl, rfl, hwx⟩ := hcut
      subst hwx
      rcases quoTo_cases X Y with ⟨hex, hqt⟩ | ⟨hno, hqt⟩
      case inr =>
        have hquo := H_hquo.out
        rw [hqt] at hquo
        have H_hquo := Lib.hid hquo; clear hquo
        have H_hno := Lib.hid hno; clear hno
        go_wp2_with (fail)
        refine (H_hquo.out _).mono ?_
        rintro e w61 ⟨rfl, f9⟩
        have r1 := row_fresh H_r1.out f9
        have r2 := row_fresh H_r2.out f9
        have r3 := row_fresh H_r3.out f9
        have fa := fresh_trans H_fa.out f9
        clear H_r1 H_r2 H_r3 H_fa f9
        clear k0 k1 k2 k3 k4 k5
        obtain ⟨k0, k1, k2, k3, k4, k5⟩ := cells6 r1 r2
        have H_r1 := Lib.hid r1; clear r1
        have H_r2 := Lib.hid r2; clear r2
        have H_r3 := Lib.hid r3; clear r3
        have H_fa := Lib.hid fa; clear fa
        go_wp2_with (fail)
        obtain ⟨ae, hae⟩ := H_hJ.out.fresh H_fa.out
        have hne : 4 ≠ g + 1 + 1 := by
          obtain ⟨_, h0⟩ := H_hJ.out
          have := ErrJs.lt h0
          have := H_hg.out
          omega
        have p0 := row_cell H_r3.out 0
        have p1 := row_cell H_r3.out 1
        have p2 := row_cell H_r3.out 2
        simp at p0 p1 p2
        have z0 : w61.frozen? ⟨g + 1 + 1, 0, none⟩ = false := frozen_of_row _ _ _ _ _ H_r3.out
        have z1 : w61.frozen? ⟨g + 1 + 1, 1, none⟩ = false := frozen_of_row _ _ _ _ _ H_r3.out
        have z2 : w61.frozen? ⟨g + 1 + 1, 2, none⟩ = false := frozen_of_row _ _ _ _ _ H_r3.out
        go_wp2_with (fail)
        go_region_held3 (fun (w' : World) => w'.cell? ⟨4, 0, none⟩ = some (.iface 121 (.pointer (some ae)))) (first | exact hae | exact far3 hne hae) (fail)
        go_wp2
        refine bodyPost_ret (results_cell_tmp_row rfl _ _ (g + 1 + 1) 60 #[.bool false, .int .i8 0, .int .u64 0] (0, 0) _ rfl (row_set (row_set (row_set H_r3.out))) Tryz.underlying60 rfl (by kernel_rfl)) rfl ?_
        exact .inr ⟨H_hno.out, ae, rfl, Fresh.set3 (H_fa.out.drewN 1) (by have := H_hg.out; omega)⟩
      have hquo := H_hquo.out
      rw [hqt] at hquo
      have hnf := H_hnf.out hex
      generalize X / Y = q at *
      have H_hquo := Lib.hid hquo; clear hquo
      have H_hex := Lib.hid hex; clear hex
      have H_hnf := Lib.hid hnf; clear hnf
      go_wp2_with (fail)
      refine (H_hquo.out _).mono ?_
      rintro e w61 ⟨rfl, f9⟩
      have r1 := row_fresh H_r1.out f9
      have r2 := row_fresh H_r2.out f9
      have r3 := row_fresh H_r3.out f9
      have fa := fresh_trans H_fa.out f9
      clear H_r1 H_r2 H_r3 H_fa f9
      clear k0 k1 k2 k3 k4 k5
      obtain ⟨k0, k1, k2, k3, k4, k5⟩ := cells6 r1 r2
      have H_r1 := Lib.hid r1; clear r1
      have H_r2 := Lib.hid r2; clear r2
      have H_r3 := Lib.hid r3; clear r3
      have H_fa := Lib.hid fa; clear fa
      go_wp2_with (fail)
      refine (Scale_any m2 s2 c2 _ H_hs2.out).mono ?_
      rintro e w62 ⟨rfl, f9⟩
      have r1 := row_fresh H_r1.out f9
      have r2 := row_fresh H_r2.out f9
      have r3 := row_fresh H_r3.out f9
      have fa := fresh_trans H_fa.out f9
      clear H_r1 H_r2 H_r3 H_fa f9
      clear k0 k1 k2 k3 k4 k5
      obtain ⟨k0, k1, k2, k3, k4, k5⟩ := cells6 r1 r2
      have H_r1 := Lib.hid r1; clear r1
      have H_r2 := Lib.hid r2; clear r2
      have H_r3 := Lib.hid r3; clear r3
      have H_fa := Lib.hid fa; clear fa
      go_wp2_with (fail)
      refine (IsNeg_any m2 s2 c2 _).mono ?_
      rintro e w63 ⟨rfl, f9⟩
      have r1 := row_fresh H_r1.out f9
      have r2 := row_fresh H_r2.out f9
      have r3 := row_fresh H_r3.out f9
      have fa := fresh_trans H_fa.out f9
      clear H_r1 H_r2 H_r3 H_fa f9
      clear k0 k1 k2 k3 k4 k5
      obtain ⟨k0, k1, k2, k3, k4, k5⟩ := cells6 r1 r2
      have H_r1 := Lib.hid r1; clear r1
      have H_r2 := Lib.hid r2; clear r2
      have H_r3 := Lib.hid r3; clear r3
      have H_fa := Lib.hid fa; clear fa
      go_wp2_with (fail)
      refine (H_hnf.out _ H_fa.out).mono ?_
      rintro e w99 ⟨ev, rfl, hev, f9⟩
      have r3 := row_fresh H_r3.out f9
      have p0 := row_cell r3 0
      have p1 := row_cell r3 1
      have p2 := row_cell r3 2
      simp at p0 p1 p2
      have z0 : w99.frozen? ⟨g + 1 + 1, 0, none⟩ = false := frozen_of_row _ _ _ _ _ r3
      have z1 : w99.frozen? ⟨g + 1 + 1, 1, none⟩ = false := frozen_of_row _ _ _ _ _ r3
      have z2 : w99.frozen? ⟨g + 1 + 1, 2, none⟩ = false := frozen_of_row _ _ _ _ _ r3
      have fa := fresh_trans H_fa.out f9
      clear H_r3 H_fa f9 k0 k1 k2 k3 k4 k5
      have H_r3 := Lib.hid r3; clear r3
      have H_fa := Lib.hid fa; clear fa
      have H_hev := Lib.hid hev; clear hev
      go_wp2_with (fail)
      refine bodyPost_ret (results_cell_tmp_row rfl _ _ (g + 1 + 1) 60 #[.bool nz, .int .i8 sz, .int .u64 cz] (0, 0) _ rfl (row_set (row_set (row_set H_r3.out))) Tryz.underlying60 rfl (by kernel_rfl)) rfl ?_
      exact .inl ⟨H_hex.out, ev, rfl, H_hev.out, Fresh.set3 H_fa.out (by have := H_hg.out; omega)⟩

end Go.Proofs.YtmgidnjpkbgmgabGreatDoor

/- govalues: bint.quo in place, by a number of up to three words. -/
namespace Go.Proofs.YtmgidnjpkbgmgabGreatDoor
open Go.RowKit

set_option maxRecDepth 20000 in
set_option maxHeartbeats 2000000 in
theorem bquo_self (g h n y : Nat) (v u : Value) (w : World) (hG : Glob w) (hn : n < wpow 39) (hy0 : 0 < y) (hyb : y < wpow 3) (_hne : g ≠ h) (hz : BI w g v n) (hy : BI w h u y) :
    Calls Tryz.prog 112 #[.pointer (some ⟨g, 0, none⟩), .pointer (some ⟨g, 0, none⟩), .pointer (some ⟨h, 0, none⟩)] w (fun e w' => e = .returned (.tuple #[]) ∧ BSet w g v (n / y) w') := by
  have hgb := getBint_any w hG.size
  obtain ⟨b, hb⟩ : ∃ b, b = w.heap.size := ⟨_, rfl⟩
  rw [← hb] at hgb
  have hgb0 : g ≠ b := by have := hz.lt; omega
  have hqr := fun W (hW : Fresh w W) (hz : BI W g v n) (hy : BI W h u y) (hr : BI W b (.slice none 0 0) 0) =>
    bquoRem_all g g h b v v u (.slice none 0 0) n n y 0 W (hG.fresh hW) hn hy0 hyb hgb0 hz hz hy hr (.inl rfl) (fun k _ hk => by simp [Value.ownBlock] at hk) (fun k hk => by simp [Value.ownBlock] at hk) (fun k hk => by simp [Value.ownBlock] at hk)
  clear hG hn hy0 hyb _hne
  generalize n / y = q at *
  generalize n % y = r at *
  have H_hz := Lib.hid hz; clear hz
  have H_hy := Lib.hid hy; clear hy
  have H_hgb := Lib.hid hgb; clear hgb
  have H_hb := Lib.hid hb; clear hb
  have H_hgb0 := Lib.hid hgb0; clear hgb0
  have H_hqr := Lib.hid hqr; clear hqr
  go_enter_defers Tryz.func112, Tryz.ntmps112
  go_wp2_with (fail)
  refine H_hgb.out.mono ?_
  rintro e w1 ⟨rfl, b1, f1, s1⟩
  have hq := H_hqr.out w1 f1 (H_hz.out.fresh f1) (H_hy.out.fresh f1) b1
  have H_b1 := Lib.hid b1; clear b1
  have H_f1 := Lib.hid f1; clear f1
  have H_s1 := Lib.hid s1; clear s1
  have H_hq := Lib.hid hq; clear hq
  go_wp2_with (fail)
  refine H_hq.out.mono ?_
  rintro e w3 ⟨rfl, v3, u3, z3, r3, k3, ov, ou, od⟩
  have k03 : Keep (fun k => k = g ∨ v.ownBlock = some k) w w3 := H_f1.out.trans k3 (fun _ _ h => h.elim) (fun k hk h => by
    rcases h with rfl | rfl | h | h
    · exact .inl rfl
    · have := H_hb.out; omega
    · exact .inr h
    · simp [Value.ownBlock] at h)
  have own03 : ∀ k, v3.ownBlock = some k → v.ownBlock = some k ∨ w.heap.size ≤ k := fun k hk => by
    rcases ov k hk with h | h
    · exact .inl h
    · have := H_f1.out.size; exact .inr (by omega)
  clear k3 ov ou od r3
  have H_z3 := Lib.hid z3; clear z3
  have H_k03 := Lib.hid k03; clear k03
  have H_own03 := Lib.hid own03; clear own03
  go_wp2_with (fail)
  refine leaves_cons (f := 94) (args := #[.pointer (some ⟨b, 0, none⟩)]) (by simp) (by simp [go_sem]) ?_
  refine (putBint_idle _ _).mono ?_
  rintro e u' w'' ⟨rfl, rfl, rfl⟩
  refine ⟨.tuple #[], ?_, ?_⟩
  · simp [results, Tryz.results112]
  · exact ⟨rfl, v3, H_z3.out, H_k03.out, H_own03.out⟩

end Go.Proofs.YtmgidnjpkbgmgabGreatDoor

/- govalues.Decimal.quoBint. -/
namespace Go.Proofs.YtmgidnjpkbgmgabGreatDoor
open Go.RowKit

set_option maxRecDepth 20000 in
set_option maxHeartbeats 4000000 in
theorem quoBint_go (m1 m2 : Bool) (c1 s1 c2 s2 k : Nat) (w : World) (hG : Glob w) (hP : Pow10s w) (ms : Nat) (hs1 : s1 ≤ 19) (hs2 : s2 ≤ 19) (hc1 : c1 ≤ 9999999999999999999) (hc2 : c2 ≤ 9999999999999999999) (hc20 : 0 < c2) (hk : k = 41 + s2 - s1)
    (nz : Bool) (sz cz : Nat) (Pv : Value → Prop)
    (hnb : ∀ V v, Fresh w V → (∀ k, v.ownBlock = some k → w.heap.size + 5 ≤ k) → BI V (w.heap.size + 3) v (c1 * 10 ^ k / c2) → Calls Tryz.prog 98 #[.bool (m1 != m2), .pointer (some ⟨w.heap.size + 3, 0, none⟩), .int .i64 41, .int .i64 ms] V (NBOut V (w.heap.size + 3) v nz sz cz Pv)) :
    Calls Tryz.prog 87 #[gd m1 s1 c1, gd m2 s2 c2, .int .i64 ms] w (DOut w nz sz cz Pv) := by
  have hcw1 : c1 < wpow 39 := wpow_big (by omega)
  have hcw2 : c2 < wpow 3 := Nat.lt_of_le_of_lt hc2 (by unfold wpow; decide)
  have hbw : c1 * 10 ^ k < wpow 39 := by
    have h1 : 10 ^ k ≤ 10 ^ 60 := Nat.pow_le_pow_right (by omega) (by omega)
    have h2 : c1 * 10 ^ k ≤ 10 ^ 19 * 10 ^ 60 := Nat.mul_le_mul (Nat.le_trans hc1 (by decide)) h1
    rw [← Nat.pow_add] at h2
    exact Nat.lt_of_le_of_lt h2 (wpow_ten (by omega))
  obtain ⟨T, hT⟩ : ∃ T, T = 41 + s2 := ⟨_, rfl⟩
  have hTI : (41 : Int) + (s2 : Int) = (T : Int) := by omega
  have hTw : IntKind.i64.wrap (T : Int) = (T : Int) := wrap_nat T (by omega)
  have hkI : (T : Int) - (s1 : Int) = (k : Int) := by omega
  have hkw : IntKind.i64.wrap (k : Int) = (k : Int) := wrap_nat k (by omega)
  have hk60 : k ≤ 60 := by omega
  have hlsh := fun g v W (hG : Glob W) (hP : Pow10s W) => lsh_far g v c1 k W hG hP hcw1 hk60
  clear hk hT hk60
  obtain ⟨b, hb⟩ : ∃ b, b = c1 * 10 ^ k := ⟨_, rfl⟩
  rw [← hb] at hbw hnb hlsh
  obtain ⟨q, hq⟩ : ∃ q, q = b / c2 := ⟨_, rfl⟩
  rw [← hq] at hnb
  clear hb
  obtain ⟨g, hg⟩ : ∃ g, g = w.heap.size := ⟨_, rfl⟩
  have hsz0 : NG ≤ w.heap.size := hG.size
  have bx := boxes3 w #[.bool m1, .int .i8 s1, .int .u64 c1] #[.bool m2, .int .i8 s2, .int .u64 c2] #[.bool false, .int .i8 0, .int .u64 0] 60 60 60 g hg
  rw [← hg] at hnb
  have H_bx := Lib.hid bx; clear bx
  have H_hsz0 := Lib.hid hsz0; clear hsz0
  have H_hG := Lib.hid hG; clear hG
  have H_hP := Lib.hid hP; clear hP
  have H_hnb := Lib.hid hnb; clear hnb
  have H_hcw1 := Lib.hid hcw1; clear hcw1
  have H_hcw2 := Lib.hid hcw2; clear hcw2
  have H_hs1 := Lib.hid hs1; clear hs1
  have H_hs2 := Lib.hid hs2; clear hs2
  have H_hc1 := Lib.hid hc1; clear hc1
  have H_hc2 := Lib.hid hc2; clear hc2
  have H_hc20 := Lib.hid hc20; clear hc20
  have H_hbw := Lib.hid hbw; clear hbw
  have H_hlsh := Lib.hid hlsh; clear hlsh
  have H_hq := Lib.hid hq; clear hq
  go_enter_defers Tryz.func87, Tryz.ntmps87
  go_wp2_with (fail)
  generalize hw1 : ((w.alloc _).alloc _).alloc _ = w1
  rw [← hg]
  obtain ⟨r1, r2, r3, fa, _⟩ := H_bx.out w1 hw1
  have sz1 : w1.heap.size = g + 3 := by rw [← hw1, hg]; simp
  have hb1 := getBint_any w1 (by have := H_hsz0.out; omega)
  rw [sz1] at hb1
  have H_r1 := Lib.hid r1; clear r1
  have H_r2 := Lib.hid r2; clear r2
  have H_r3 := Lib.hid r3; clear r3
  have H_fa := Lib.hid fa; clear fa
  have H_hw1 := Lib.hid hw1; clear hw1
  have H_hg := Lib.hid hg; clear hg
  have H_hb1 := Lib.hid hb1; clear hb1
  have H_sz1 := Lib.hid sz1; clear sz1
  go_wp2_with (fail)
  refine H_hb1.out.mono ?_
  rintro e w2 ⟨rfl, z2, f2, sz2⟩
  have sz2' : w2.heap.size = g + 4 := by omega
  have hb2 := getBint_any w2 (by have := H_hsz0.out; have := H_hg.out; omega)
  rw [sz2'] at hb2
  have H_z2 := Lib.hid z2; clear z2
  have H_f2 := Lib.hid f2; clear f2
  have H_sz2 := Lib.hid sz2; clear sz2
  have H_sz2' := Lib.hid sz2'; clear sz2'
  have H_hb2 := Lib.hid hb2; clear hb2
  go_wp2_with (fail)
  refine H_hb2.out.mono ?_
  rintro e w3 ⟨rfl, y3, f3, sz3⟩
  have ff := fresh_trans H_f2.out f3
  have bs : BS w w3 g m1 m2 c1 s1 c2 s2 (.slice none 0 0) (.slice none 0 0) 0 0 := ⟨row_fresh H_r1.out ff, row_fresh H_r2.out ff, row_fresh H_r3.out ff, H_z2.out.fresh f3, y3, fun k h => by simp [Value.ownBlock] at h, fun k h => by simp [Value.ownBlock] at h, fun k h => by simp [Value.ownBlock] at h, fresh_trans H_fa.out ff, H_hg.out, by omega⟩
  clear H_r1 H_r2 H_r3 H_fa H_z2 H_f2 y3 f3 sz3 ff
  obtain ⟨k0, k1, k2, k3, k4, k5⟩ := bs.cells
  have H_bs := Lib.hid bs; clear bs
  go_wp2_with (fail)
  refine (setFint_any (g + 3) _ 0 c1 _ (by have := H_hc1.out; omega) H_bs.out.z).mono ?_
  rintro e w4 ⟨rfl, hbs⟩
  obtain ⟨x4, bs⟩ := H_bs.out.setP hbs
  clear H_bs hbs
  clear k0 k1 k2 k3 k4 k5
  obtain ⟨k0, k1, k2, k3, k4, k5⟩ := bs.cells
  have H_bs := Lib.hid bs; clear bs
  go_wp2_with (fail)
  refine (IsNeg_any m1 s1 c1 _).mono ?_
  rintro e w5 ⟨rfl, f9⟩
  have bs := H_bs.out.fresh f9
  clear H_bs f9
  clear k0 k1 k2 k3 k4 k5
  obtain ⟨k0, k1, k2, k3, k4, k5⟩ := bs.cells
  have H_bs := Lib.hid bs; clear bs
  go_wp2_with (fail)
  refine (setFint_any (g + 4) _ 0 c2 _ (by have := H_hc2.out; omega) H_bs.out.y).mono ?_
  rintro e w6 ⟨rfl, hbs⟩
  obtain ⟨x6, bs⟩ := H_bs.out.setQ hbs
  clear H_bs hbs
  clear k0 k1 k2 k3 k4 k5
  obtain ⟨k0, k1, k2, k3, k4, k5⟩ := bs.cells
  have H_bs := Lib.hid bs; clear bs
  go_wp2_with (fail)
  go_region_held3 (fun (w' : World) => w'.cell? ⟨g, 0, none⟩ = some (.bool m1) ∧ w'.cell? ⟨g, 1, none⟩ = some (.int .i8 s1) ∧ w'.cell? ⟨g, 2, none⟩ = some (.int .u64 c1) ∧ w'.cell? ⟨g + 1, 0, none⟩ = some (.bool m2) ∧ w'.cell? ⟨g + 1, 1, none⟩ = some (.int .i8 s2) ∧ w'.cell? ⟨g + 1, 2, none⟩ = some (.int .u64 c2)) (first | exact ⟨k0, k1, k2, k3, k4, k5⟩ | exact ⟨ka0, ka1, ka2, ka3, ka4, ka5⟩ | exact ⟨kb0, kb1, kb2, kb3, kb4, kb5⟩ | exact ⟨kc0, kc1, kc2, kc3, kc4, kc5⟩) (first
    | (go_at_call 67; (with_reducible refine (Scale_any m2 s2 c2 _ H_hs2.out).mono ?_); rintro e y1 ⟨rfl, r⟩; have hy : Fresh w6 y1 := (by first | exact r | exact r.of_drew | exact r.of_drewN); have bs1 := H_bs.out.fresh hy; obtain ⟨ka0, ka1, ka2, ka3, ka4, ka5⟩ := bs1.cells; have H_bs1 := Lib.hid bs1; clear bs1 hy r)
    | (go_at_call 67; (with_reducible refine (Scale_any m1 s1 c1 _ H_hs1.out).mono ?_); rintro e y2 ⟨rfl, r⟩; have bs2 := H_bs1.out.fresh r; obtain ⟨kb0, kb1, kb2, kb3, kb4, kb5⟩ := bs2.cells; have H_bs2 := Lib.hid bs2; clear bs2 r)
    | (go_at_call 96; (with_reducible refine (H_hlsh.out (g + 3) _ _ (H_hG.out.fresh H_bs2.out.f) (H_hP.out.fresh H_bs2.out.f) H_bs2.out.z).mono ?_); rintro e y3 ⟨rfl, hbs⟩; obtain ⟨x9, bs3⟩ := H_bs2.out.setP hbs; obtain ⟨kc0, kc1, kc2, kc3, kc4, kc5⟩ := bs3.cells; have H_bs3 := Lib.hid bs3; clear bs3 hbs))
  clear H_bs H_bs1 H_bs2 k0 k1 k2 k3 k4 k5
  have bs := H_bs3.out
  clear H_bs3
  try clear ka0 ka1 ka2 ka3 ka4 ka5
  try clear kb0 kb1 kb2 kb3 kb4 kb5
  try clear kc0 kc1 kc2 kc3 kc4 kc5
  obtain ⟨k0, k1, k2, k3, k4, k5⟩ := bs.cells
  have H_bs := Lib.hid bs; clear bs
  go_wp2_with (fail)
  refine (bquo_self (g + 3) (g + 4) b c2 _ _ _ (H_hG.out.fresh H_bs.out.f) H_hbw.out H_hc20.out H_hcw2.out (by omega) H_bs.out.z H_bs.out.y).mono ?_
  rintro e w10 ⟨rfl, hbs⟩
  obtain ⟨x10, bs⟩ := H_bs.out.setP hbs
  clear H_bs hbs
  clear k0 k1 k2 k3 k4 k5
  obtain ⟨k0, k1, k2, k3, k4, k5⟩ := bs.cells
  have H_bs := Lib.hid bs; clear bs
  rw [← H_hq.out] at H_bs
  go_wp2_with (fail)
  refine (IsNeg_any m2 s2 c2 _).mono ?_
  rintro e w11 ⟨rfl, f9⟩
  have bs := H_bs.out.fresh f9
  clear H_bs f9
  clear k0 k1 k2 k3 k4 k5
  obtain ⟨k0, k1, k2, k3, k4, k5⟩ := bs.cells
  have H_bs := Lib.hid bs; clear bs
  go_wp2_with (fail)
  refine (H_hnb.out _ _ H_bs.out.f (fun k h => H_bs.out.ov k h) H_bs.out.z).mono ?_
  rintro e w12 ⟨ev, rfl, hev, k9⟩
  have r3 := row_keep H_bs.out.r3 k9 (fun hh => hh.elim (fun h => by omega) (fun h => by have := H_bs.out.ov _ h; omega))
  have fa : Fresh w w12 := H_bs.out.f.trans k9 (fun _ _ h => h) (fun k hk hh => by
    have := H_bs.out.hg
    rcases hh with rfl | hh
    · omega
    · have := H_bs.out.ov k hh; omega)
  have p0 := row_cell r3 0
  have p1 := row_cell r3 1
  have p2 := row_cell r3 2
  simp at p0 p1 p2
  have z0 : w12.frozen? ⟨g + 1 + 1, 0, none⟩ = false := frozen_of_row _ _ _ _ _ r3
  have z1 : w12.frozen? ⟨g + 1 + 1, 1, none⟩ = false := frozen_of_row _ _ _ _ _ r3
  have z2 : w12.frozen? ⟨g + 1 + 1, 2, none⟩ = false := frozen_of_row _ _ _ _ _ r3
  clear k9 k0 k1 k2 k3 k4 k5
  have H_r3 := Lib.hid r3; clear r3
  have H_fa := Lib.hid fa; clear fa
  have H_hev := Lib.hid hev; clear hev
  go_wp2_with (fail)
  refine leaves_cons (f := 94) (args := #[.pointer (some ⟨g + 4, 0, none⟩)]) (by simp) (by simp [go_sem]) ?_
  refine (putBint_idle _ _).mono ?_
  rintro e u' w'' ⟨rfl, rfl, rfl⟩
  refine leaves_cons (f := 94) (args := #[.pointer (some ⟨g + 3, 0, none⟩)]) (by first | (intro h; cases h; done) | simp [settle]) (by simp [go_sem]) ?_
  refine (putBint_idle _ _).mono ?_
  rintro e u2 wf ⟨rfl, rfl, rfl⟩
  refine ⟨_, results_cell_tmp_row rfl _ _ (g + 1 + 1) 60 #[.bool nz, .int .i8 sz, .int .u64 cz] (0, 0) _ rfl (row_set (row_set (row_set H_r3.out))) Tryz.underlying60 rfl (by kernel_rfl), ?_⟩
  exact ⟨ev, rfl, H_hev.out, Fresh.set3 H_fa.out (by have := H_hg.out; omega)⟩

end Go.Proofs.YtmgidnjpkbgmgabGreatDoor
