/- govalues: newFromFint at scales below 0 and above 38. -/
import Derived.Test.YtjjolcjeiogdmabGreatDoorProg
import Derived.Outline
import Derived.WalkLawsBesides
import Derived.WalkSpells
import Derived.Shelf.Spec.BitsCarry
import Derived.Shelf.Bits.Mul64
import Derived.Test.YtjjolcjeiogdmabGreatDoorK1
import Derived.Test.YtjjolcjeiogdmabGreatDoorK8
import Derived.Test.YtjjolcjeiogdmabGreatDoorK11
namespace Go.Proofs.YtjjolcjeiogdmabGreatDoor
open Go.RowKit

theorem rhe_far {x k : Nat} (hx : x ≤ 9999999999999999999) (hk : 20 ≤ k) : rhe x (10 ^ k) = 0 := by
  have h1 : 10 ^ 20 ≤ 10 ^ k := Nat.pow_le_pow_right (by omega) hk
  unfold rhe
  rw [Nat.div_eq_of_lt (by omega), Nat.mod_eq_of_lt (by omega), if_neg (by omega)]

theorem frsh_all (x k : Nat) (w : World) (hP : Pow10s w) (hx : x ≤ 9999999999999999999) (hk : k ≤ 100) :
    Calls Tryz.prog 67 #[.int .u64 x, .int .i64 k] w (fun e w' => e = .returned (.int .u64 (rhe x (10 ^ k) : Nat)) ∧ w' = w) := by
  rcases Nat.lt_or_ge 19 k with h | h
  · rw [rhe_far hx h]
    have t1 : decide ((k : Int) ≤ 0) = false := by simp; omega
    have t2 : decide ((20 : Int) ≤ (k : Int)) = true := by simp; omega
    clear hP
    rcases Nat.eq_zero_or_pos x with h0 | h0
    · subst h0
      go_enter Tryz.func67, Tryz.ntmps67
      go_wp2
      go_ret
      exact ⟨rfl, rfl⟩
    · have t0 : ((x : Int) == 0) = false := by rw [beq_eq_false_iff_ne]; omega
      go_enter Tryz.func67, Tryz.ntmps67
      go_wp2
      go_ret
      exact ⟨rfl, rfl⟩
  · exact frsh_any x k w hP hx h

set_option maxRecDepth 20000 in
set_option maxHeartbeats 2000000 in
theorem newFromFintI_lt (neg : Bool) (C ms k : Nat) (S : Int) (w : World) (hP : Pow10s w) (hC : C ≤ 9999999999999999999) (h1 : S < ms) (hsub : (ms : Int) - S = (k : Int)) (hk1 : k ≤ 100) (h2 : ms ≤ 19) (hk19 : k ≤ 19) (hfit : C * 10 ^ k ≤ 9999999999999999999) :
    Calls Tryz.prog 57 #[.bool neg, .int .u64 C, .int .i64 S, .int .i64 ms] w (VRet w (.tuple #[gd (neg && decide (0 < C * 10 ^ (k))) ms (C * 10 ^ (k)), .nilIface])) := by
  obtain ⟨g, hg⟩ : ∃ g, g = w.heap.size := ⟨_, rfl⟩
  have bx := box1 w #[.bool false, .int .i8 0, .int .u64 0] 40 g hg
  have t1 : decide (S < (ms : Int)) = true := by simp; omega
  have hlsh := fun W (hW : Fresh w W) => fsh_any C k W (hP.fresh hW) hC (by omega)
  have hkw : IntKind.i64.wrap (k : Int) = (k : Int) := wrap_nat k (by omega)
  obtain ⟨c, hc⟩ : ∃ c, c = C * 10 ^ k := ⟨_, rfl⟩
  have hm : fshTo C k = .tuple #[.int .u64 c, .bool true] := by unfold fshTo; rw [if_pos hk19, ← hc, mulTo_yes (by rw [hc]; exact hfit)]
  rw [hm] at hlsh
  rw [← hc] at hfit ⊢
  clear hm hc
  have hsafe := fun W => newSafe_any neg ms c W h2 hfit
  have H_bx := Lib.hid bx; clear bx
  have H_hlsh := Lib.hid hlsh; clear hlsh
  have H_hsafe := Lib.hid hsafe; clear hsafe
  have H_hP := Lib.hid hP; clear hP
  go_enter Tryz.func57, Tryz.ntmps57
  go_wp2_with (fail)
  generalize hw1 : w.alloc _ = w1
  rw [← hg]
  obtain ⟨b1, hf⟩ := H_bx.out w1 hw1
  have H_b1 := Lib.hid b1; clear b1
  have H_hf := Lib.hid hf; clear hf
  have H_hw1 := Lib.hid hw1; clear hw1
  have H_hg := Lib.hid hg; clear hg
  go_wp2_with (fail)
  refine (H_hlsh.out _ H_hf.out).mono ?_
  rintro e w2 ⟨rfl, rfl⟩
  go_wp2_with (fail)
  refine (H_hsafe.out _).mono ?_
  rintro e w3 ⟨rfl, f3⟩
  have b1 := row_fresh H_b1.out f3
  have p0 := row_cell b1 0
  have p1 := row_cell b1 1
  have p2 := row_cell b1 2
  simp at p0 p1 p2
  have z0 : w3.frozen? ⟨g, 0, none⟩ = false := frozen_of_row _ _ _ _ _ b1
  have z1 : w3.frozen? ⟨g, 1, none⟩ = false := frozen_of_row _ _ _ _ _ b1
  have z2 : w3.frozen? ⟨g, 2, none⟩ = false := frozen_of_row _ _ _ _ _ b1
  clear H_b1
  obtain ⟨bn, hbn⟩ : ∃ b, b = (neg && decide (0 < c)) := ⟨_, rfl⟩
  rw [← hbn]
  have H_b1 := Lib.hid b1; clear b1
  have H_hbn := Lib.hid hbn; clear hbn
  go_wp2_with (fail)
  refine bodyPost_ret (results_cell_tmp_row rfl _ _ g 40 #[.bool bn, .int .i8 ms, .int .u64 c] (0, 0) _ rfl (row_set (row_set (row_set H_b1.out))) Tryz.underlying40 rfl (by kernel_rfl)) rfl ?_
  exact ⟨by rw [← H_hbn.out]; rfl, Fresh.set3 (fresh_trans H_hf.out f3) (by have := H_hg.out; omega)⟩

set_option maxRecDepth 20000 in
set_option maxHeartbeats 2000000 in
theorem newFromFintI_no (neg : Bool) (C ms k : Nat) (S : Int) (w : World) (hP : Pow10s w) (hE : ErrIs w) (hC : C ≤ 9999999999999999999) (h1 : S < ms) (hsub : (ms : Int) - S = (k : Int)) (hk1 : k ≤ 100) (_h2 : ms ≤ 19) (hfit : ¬ (k ≤ 19 ∧ C * 10 ^ k ≤ 9999999999999999999)) :
    Calls Tryz.prog 57 #[.bool neg, .int .u64 C, .int .i64 S, .int .i64 ms] w (ClampErr w) := by
  obtain ⟨g, hg⟩ : ∃ g, g = w.heap.size := ⟨_, rfl⟩
  have bx := box1 w #[.bool false, .int .i8 0, .int .u64 0] 40 g hg
  have t1 : decide (S < (ms : Int)) = true := by simp; omega
  have hlsh := fun W (hW : Fresh w W) => fsh_any C k W (hP.fresh hW) hC (by omega)
  have hkw : IntKind.i64.wrap (k : Int) = (k : Int) := wrap_nat k (by omega)
  have hm : fshTo C k = .tuple #[.int .u64 0, .bool false] := by
    unfold fshTo
    by_cases h : k ≤ 19
    · rw [if_pos h, mulTo_no (fun h' => hfit ⟨h, h'⟩)]
    · rw [if_neg h]
  rw [hm] at hlsh
  clear hm
  clear hfit
  have H_bx := Lib.hid bx; clear bx
  have H_hlsh := Lib.hid hlsh; clear hlsh
  have H_hP := Lib.hid hP; clear hP
  have H_hE := Lib.hid hE; clear hE
  go_enter Tryz.func57, Tryz.ntmps57
  go_wp2_with (fail)
  generalize hw1 : w.alloc _ = w1
  rw [← hg]
  obtain ⟨b1, hf⟩ := H_bx.out w1 hw1
  have H_b1 := Lib.hid b1; clear b1
  have H_hf := Lib.hid hf; clear hf
  have H_hw1 := Lib.hid hw1; clear hw1
  have H_hg := Lib.hid hg; clear hg
  go_wp2_with (fail)
  refine (H_hlsh.out _ H_hf.out).mono ?_
  rintro e w2 ⟨rfl, rfl⟩
  obtain ⟨ae, hae⟩ := H_hE.out.fresh H_hf.out
  have hne : 1 ≠ g := by
    obtain ⟨_, h0⟩ := H_hE.out
    have := ErrIs.lt h0
    have := H_hg.out
    omega
  have p0 := row_cell H_b1.out 0
  have p1 := row_cell H_b1.out 1
  have p2 := row_cell H_b1.out 2
  simp at p0 p1 p2
  have z0 : w2.frozen? ⟨g, 0, none⟩ = false := frozen_of_row _ _ _ _ _ H_b1.out
  have z1 : w2.frozen? ⟨g, 1, none⟩ = false := frozen_of_row _ _ _ _ _ H_b1.out
  have z2 : w2.frozen? ⟨g, 2, none⟩ = false := frozen_of_row _ _ _ _ _ H_b1.out
  go_wp2_with (fail)
  go_region_held3 (fun (w' : World) => w'.cell? ⟨1, 0, none⟩ = some (.iface 71 (.pointer (some ae)))) (first | exact hae | exact far3 hne hae) (fail)
  go_wp2
  refine bodyPost_ret (results_cell_tmp_row rfl _ _ g 40 #[.bool false, .int .i8 0, .int .u64 0] (0, 0) _ rfl (row_set (row_set (row_set H_b1.out))) Tryz.underlying40 rfl (by kernel_rfl)) rfl ?_
  exact ⟨ae, rfl, Fresh.set3 (H_hf.out.drewN 1) (by have := H_hg.out; omega)⟩

set_option maxRecDepth 20000 in
set_option maxHeartbeats 2000000 in
theorem newFromFintL_gt (neg : Bool) (C S ms : Nat) (w : World) (hP : Pow10s w) (hC : C ≤ 9999999999999999999) (h1 : ms ≤ S) (h2 : 19 < S) (hS : S ≤ 100) :
    Calls Tryz.prog 57 #[.bool neg, .int .u64 C, .int .i64 S, .int .i64 ms] w (VRet w (.tuple #[gd (neg && decide (0 < rhe C (10 ^ (S - 19)))) 19 (rhe C (10 ^ (S - 19))), .nilIface])) := by
  obtain ⟨g, hg⟩ : ∃ g, g = w.heap.size := ⟨_, rfl⟩
  have bx := box1 w #[.bool false, .int .i8 0, .int .u64 0] 40 g hg
  have t1 : decide ((S : Int) < (ms : Int)) = false := by simp; omega
  have t1n : ¬ S < ms := by omega
  have t2 : decide (19 < (S : Int)) = true := by simp; omega
  have hsub : (S : Int) - 19 = ((S - 19 : Nat) : Int) := by omega
  have hrsh := fun W (hW : Fresh w W) => frsh_all C (S - 19) W (hP.fresh hW) hC (by omega)
  have hcle : rhe C (10 ^ (S - 19)) ≤ 9999999999999999999 := by
    rcases Nat.eq_zero_or_pos (S - 19) with h | h
    · omega
    · have h5 : 10 ^ 1 ≤ 10 ^ (S - 19) := Nat.pow_le_pow_right (by omega) h
      have h6 := rhe_le C (10 ^ (S - 19))
      have h7 : C / 10 ^ (S - 19) ≤ C / 10 ^ 1 := Nat.div_le_div_left h5 (by decide)
      omega
  obtain ⟨k, hk⟩ : ∃ k, k = S - 19 := ⟨_, rfl⟩
  rw [← hk] at hsub hrsh hcle ⊢
  have hkw : IntKind.i64.wrap (k : Int) = (k : Int) := wrap_nat k (by omega)
  obtain ⟨c, hc⟩ : ∃ c, c = rhe C (10 ^ k) := ⟨_, rfl⟩
  rw [← hc] at hrsh hcle ⊢
  clear hc hk
  have hsafe := fun W => newSafe_any neg 19 c W (by omega) hcle
  have H_bx := Lib.hid bx; clear bx
  have H_hrsh := Lib.hid hrsh; clear hrsh
  have H_hsafe := Lib.hid hsafe; clear hsafe
  have H_hP := Lib.hid hP; clear hP
  go_enter Tryz.func57, Tryz.ntmps57
  go_wp2_with (fail)
  generalize hw1 : w.alloc _ = w1
  rw [← hg]
  obtain ⟨b1, hf⟩ := H_bx.out w1 hw1
  have H_b1 := Lib.hid b1; clear b1
  have H_hf := Lib.hid hf; clear hf
  have H_hw1 := Lib.hid hw1; clear hw1
  have H_hg := Lib.hid hg; clear hg
  go_wp2_with (fail)
  refine (H_hrsh.out _ H_hf.out).mono ?_
  rintro e w2 ⟨rfl, rfl⟩
  go_wp2_with (fail)
  refine (H_hsafe.out _).mono ?_
  rintro e w3 ⟨rfl, f3⟩
  have b1 := row_fresh H_b1.out f3
  have p0 := row_cell b1 0
  have p1 := row_cell b1 1
  have p2 := row_cell b1 2
  simp at p0 p1 p2
  have z0 : w3.frozen? ⟨g, 0, none⟩ = false := frozen_of_row _ _ _ _ _ b1
  have z1 : w3.frozen? ⟨g, 1, none⟩ = false := frozen_of_row _ _ _ _ _ b1
  have z2 : w3.frozen? ⟨g, 2, none⟩ = false := frozen_of_row _ _ _ _ _ b1
  clear H_b1
  obtain ⟨bn, hbn⟩ : ∃ b, b = (neg && decide (0 < c)) := ⟨_, rfl⟩
  rw [← hbn]
  have H_b1 := Lib.hid b1; clear b1
  have H_hbn := Lib.hid hbn; clear hbn
  go_wp2_with (fail)
  refine bodyPost_ret (results_cell_tmp_row rfl _ _ g 40 #[.bool bn, .int .i8 19, .int .u64 c] (0, 0) _ rfl (row_set (row_set (row_set H_b1.out))) Tryz.underlying40 rfl (by kernel_rfl)) rfl ?_
  exact ⟨by rw [← H_hbn.out]; rfl, Fresh.set3 (fresh_trans H_hf.out f3) (by have := H_hg.out; omega)⟩

theorem nfI_law (neg : Bool) (C ms : Nat) (S : Int) (hC : C ≤ 9999999999999999999) (hlo : -50 ≤ S) (hS : S ≤ 100) (hms : ms ≤ 19) :
    (∀ w, Pow10s w → ErrIs w → Calls Tryz.prog 57 #[.bool neg, .int .u64 C, .int .i64 S, .int .i64 ms] w (ClampErr w)) ∨
    ∃ s c, (∀ w, Pow10s w → Calls Tryz.prog 57 #[.bool neg, .int .u64 C, .int .i64 S, .int .i64 ms] w (VRet w (.tuple #[gd (neg && decide (0 < c)) s c, .nilIface]))) ∧ ms ≤ s ∧
      (∀ N d, 0 < d → N * 10 ^ S.toNat = C * 10 ^ (-S).toNat * d → Good N d c s) := by
  by_cases h : S < ms
  · obtain ⟨k, hk⟩ := Int.eq_ofNat_of_zero_le (show 0 ≤ (ms : Int) - S by omega)
    by_cases hfit : k ≤ 19 ∧ C * 10 ^ k ≤ 9999999999999999999
    · refine .inr ⟨ms, _, fun w hP => newFromFintI_lt neg C ms k S w hP hC h hk (by omega) hms hfit.1 hfit.2, Nat.le_refl _, fun N d hd hN => ⟨hms, hfit.2, .inl ?_⟩⟩
      rcases Int.le_total 0 S with h0 | h0
      · rw [show (-S).toNat = 0 by omega, Nat.pow_zero, Nat.mul_one] at hN
        rw [Nat.mul_right_comm, ← hN, Nat.mul_assoc, ← Nat.pow_add]
        congr 2; omega
      · rw [show S.toNat = 0 by omega, Nat.pow_zero, Nat.mul_one] at hN
        rw [hN, show k = (-S).toNat + ms by omega, Nat.pow_add, ← Nat.mul_assoc, Nat.mul_right_comm]
    · exact .inl fun w hP hE => newFromFintI_no neg C ms k S w hP hE hC h hk (by omega) hms hfit
  · obtain ⟨T, rfl⟩ := Int.eq_ofNat_of_zero_le (show 0 ≤ S by omega)
    have e0 : ∀ N d : Nat, N * 10 ^ (T : Int).toNat = C * 10 ^ (-(T : Int)).toNat * d → N * 10 ^ T = C * d := fun N d hN => by
      rw [show (-(T : Int)).toNat = 0 by omega, Nat.pow_zero, Nat.mul_one, Int.toNat_natCast] at hN
      exact hN
    rcases Nat.lt_or_ge 19 T with h2 | h2
    · refine .inr ⟨19, _, fun w hP => newFromFintL_gt neg C T ms w hP hC (by omega) h2 (by omega), hms, fun N d hd hN => good_cut (e0 N d hN) hd (by omega) ?_⟩
      have h5 : 10 ^ 1 ≤ 10 ^ (T - 19) := Nat.pow_le_pow_right (by omega) (by omega)
      have h6 := rhe_le C (10 ^ (T - 19))
      have h7 : C / 10 ^ (T - 19) ≤ C / 10 ^ 1 := Nat.div_le_div_left h5 (by decide)
      omega
    · exact .inr ⟨T, C, fun w hP => newFromFint_mid neg C T ms w hP hC (by omega) h2, by omega, fun N d hd hN => good_same (e0 N d hN) h2 hC⟩

end Go.Proofs.YtjjolcjeiogdmabGreatDoor

/- govalues.Decimal.quoFint. -/
namespace Go.Proofs.YtjjolcjeiogdmabGreatDoor
open Go.RowKit

/-- the fault of a division that does not come out even lies where the program's text lays it -/
def ErrJs (w : World) : Prop := ∃ a : Addr, w.cell? ⟨2, 0, none⟩ = some (.iface 71 (.pointer (some a)))

theorem ErrJs.fresh {w w' : World} (h : ErrJs w) (hf : Fresh w w') : ErrJs w' := by
  obtain ⟨a, h⟩ := h
  exact ⟨a, cell_fresh h hf⟩

theorem ErrJs.lt {w : World} {a : Addr} (h : w.cell? ⟨2, 0, none⟩ = some (.iface 71 (.pointer (some a)))) : 2 < w.heap.size := World.block_lt_of_cell? _ _ h

set_option maxRecDepth 20000 in
set_option maxHeartbeats 4000000 in
theorem quoFint_go (m1 m2 : Bool) (c1 s1 c2 s2 ms p k : Nat) (w : World) (hJ : ErrJs w) (hP : Pow10s w) (hs1 : s1 ≤ 19) (hs2 : s2 ≤ 19) (hc1 : c1 ≤ 9999999999999999999) (hc2 : c2 ≤ 9999999999999999999) (hc20 : 0 < c2)
    (hp : IsPrec c1 p) (hk1 : 10 ^ k ∣ c2) (hk2 : ¬ 10 ^ (k + 1) ∣ c2) (nz : Bool) (sz cz : Nat) (Pv : Value → Prop) (X Y : Nat) (hX : X = c1 * 10 ^ (19 - p)) (hY : Y = c2 / 10 ^ k) (S : Int) (hS : S = (s1 : Int) + ((19 - p : Nat) : Int) + (k : Int) - (s2 : Int))
    (hnf : X % Y = 0 → ∀ W, Fresh w W → Calls Tryz.prog 57 #[.bool (m1 != m2), .int .u64 (X / Y : Nat), .int .i64 S, .int .i64 ms] W (DOut W nz sz cz Pv)) :
    Calls Tryz.prog 46 #[gd m1 s1 c1, gd m2 s2 c2, .int .i64 ms] w (AMOut w (X % Y = 0) nz sz cz Pv) := by
  have hp19 : p ≤ 19 := hp.lt_iff.1 (by omega)
  have hk19 : k ≤ 19 := by
    obtain ⟨q, hq⟩ := hk1
    have h0 : 0 < q := by
      rcases Nat.eq_zero_or_pos q with h | h
      · subst h; omega
      · exact h
    have h1 : 10 ^ k ≤ c2 := by rw [hq]; exact Nat.le_mul_of_pos_right _ h0
    rcases Nat.lt_or_ge 19 k with h | h
    · have : 10 ^ 20 ≤ 10 ^ k := Nat.pow_le_pow_right (by omega) h
      omega
    · exact h
  have hXl : X ≤ 9999999999999999999 := by
    have h1 : c1 * 10 ^ (19 - p) < 10 ^ p * 10 ^ (19 - p) := Nat.mul_lt_mul_of_pos_right hp.1 (Nat.pow_pos (by omega))
    rw [← Nat.pow_add, show p + (19 - p) = 19 by omega, ← hX] at h1
    omega
  have hY0 : 0 < Y := by
    rw [hY]
    obtain ⟨q, hq⟩ := hk1
    rw [hq, Nat.mul_div_cancel_left _ (Nat.pow_pos (by omega))]
    rcases Nat.eq_zero_or_pos q with h | h
    · subst h; omega
    · exact h
  have hYl : Y ≤ 9999999999999999999 := by rw [hY]; exact Nat.le_trans (Nat.div_le_self _ _) hc2
  have hprec := fun W (hW : Fresh w W) => prec_any c1 p W (hP.fresh hW) (by omega) hp
  have hntz := fun W (hW : Fresh w W) => ntz_any c2 k W (hP.fresh hW) (by omega) hc20 hk1 hk2
  obtain ⟨sh, hsh⟩ : ∃ sh, sh = 19 - p := ⟨_, rfl⟩
  rw [← hsh] at hX hS
  have hshI : (19 : Int) - (p : Int) = (sh : Int) := by omega
  have hshw : IntKind.i64.wrap (sh : Int) = (sh : Int) := wrap_nat sh (by omega)
  have hlsh := fun W (hW : Fresh w W) => flsh_any c1 sh W (hP.fresh hW) hc1 (by omega)
  rw [← hX, mulTo_yes hXl] at hlsh
  obtain ⟨A1, hA1⟩ : ∃ a, a = s1 + sh := ⟨_, rfl⟩
  have hA1I : (s1 : Int) + (sh : Int) = (A1 : Int) := by omega
  have hA1w : IntKind.i64.wrap (A1 : Int) = (A1 : Int) := wrap_nat A1 (by omega)
  obtain ⟨A2, hA2⟩ : ∃ a, a = A1 + k := ⟨_, rfl⟩
  have hA2I : (A1 : Int) + (k : Int) = (A2 : Int) := by omega
  have hA2w : IntKind.i64.wrap (A2 : Int) = (A2 : Int) := wrap_nat A2 (by omega)
  have hSI : (A2 : Int) - (s2 : Int) = S := by omega
  have hSw : IntKind.i64.wrap S = S := by rw [IntKind.wrap_i64]; omega
  have hquo := fun W => fquo_any X Y W hXl hY0 hYl
  obtain ⟨g, hg⟩ : ∃ g, g = w.heap.size := ⟨_, rfl⟩
  have bx := boxes3 w #[.bool m1, .int .i8 s1, .int .u64 c1] #[.bool m2, .int .i8 s2, .int .u64 c2] #[.bool false, .int .i8 0, .int .u64 0] 40 40 40 g hg
  clear hS
  have H_bx := Lib.hid bx; clear bx
  have H_hJ := Lib.hid hJ; clear hJ
  have H_hP := Lib.hid hP; clear hP
  have H_hnf := Lib.hid hnf; clear hnf
  have H_hs1 := Lib.hid hs1; clear hs1
  have H_hs2 := Lib.hid hs2; clear hs2
  have H_hc1 := Lib.hid hc1; clear hc1
  have H_hc2 := Lib.hid hc2; clear hc2
  have H_hc20 := Lib.hid hc20; clear hc20
  have H_hp := Lib.hid hp; clear hp
  have H_hk1 := Lib.hid hk1; clear hk1
  have H_hk2 := Lib.hid hk2; clear hk2
  have H_hX := Lib.hid hX; clear hX
  have H_hY := Lib.hid hY; clear hY
  have H_hp19 := Lib.hid hp19; clear hp19
  have H_hk19 := Lib.hid hk19; clear hk19
  have H_hXl := Lib.hid hXl; clear hXl
  have H_hY0 := Lib.hid hY0; clear hY0
  have H_hYl := Lib.hid hYl; clear hYl
  have H_hprec := Lib.hid hprec; clear hprec
  have H_hntz := Lib.hid hntz; clear hntz
  have H_hsh := Lib.hid hsh; clear hsh
  have H_hlsh := Lib.hid hlsh; clear hlsh
  have H_hA1 := Lib.hid hA1; clear hA1
  have H_hA2 := Lib.hid hA2; clear hA2
  have H_hquo := Lib.hid hquo; clear hquo
  go_enter Tryz.func46, Tryz.ntmps46
  go_wp2_with (fail)
  generalize hw1 : ((w.alloc _).alloc _).alloc _ = w1
  rw [← hg]
  obtain ⟨r1, r2, r3, fa, _⟩ := H_bx.out w1 hw1
  obtain ⟨k0, k1, k2, k3, k4, k5⟩ := cells6 r1 r2
  have H_r1 := Lib.hid r1; clear r1
  have H_r2 := Lib.hid r2; clear r2
  have H_r3 := Lib.hid r3; clear r3
  have H_fa := Lib.hid fa; clear fa
  have H_hw1 := Lib.hid hw1; clear hw1
  have H_hg := Lib.hid hg; clear hg
  go_wp2_with (fail)
  refine (Scale_any m1 s1 c1 _ H_hs1.out).mono ?_
  rintro e w2 ⟨rfl, f9⟩
  have r1 := row_fresh H_r1.out f9
  have r2 := row_fresh H_r2.out f9
  have r3 := row_fresh H_r3.out f9
  have fa := fresh_trans H_fa.out f9
  clear H_r1 H_r2 H_r3 H_fa f9
  clear k0 k1 k2 k3 k4 k5
  obtain ⟨k0, k1, k2, k3, k4, k5⟩ := cells6 r1 r2
  have H_r1 := Lib.hid r1; clear r1
  have H_r2 := Lib.hid r2; clear r2
  have H_r3 := Lib.hid r3; clear r3
  have H_fa := Lib.hid fa; clear fa
  go_wp2_with (fail)
  refine (IsNeg_any m1 s1 c1 _).mono ?_
  rintro e w3 ⟨rfl, f9⟩
  have r1 := row_fresh H_r1.out f9
  have r2 := row_fresh H_r2.out f9
  have r3 := row_fresh H_r3.out f9
  have fa := fresh_trans H_fa.out f9
  clear H_r1 H_r2 H_r3 H_fa f9
  clear k0 k1 k2 k3 k4 k5
  obtain ⟨k0, k1, k2, k3, k4, k5⟩ := cells6 r1 r2
  have H_r1 := Lib.hid r1; clear r1
  have H_r2 := Lib.hid r2; clear r2
  have H_r3 := Lib.hid r3; clear r3
  have H_fa := Lib.hid fa; clear fa
  go_wp2_with (fail)
  refine (H_hprec.out _ H_fa.out).mono ?_
  rintro e w4 ⟨rfl, f9⟩
  have r1 := row_fresh H_r1.out f9
  have r2 := row_fresh H_r2.out f9
  have r3 := row_fresh H_r3.out f9
  have fa := fresh_trans H_fa.out f9
  clear H_r1 H_r2 H_r3 H_fa f9
  clear k0 k1 k2 k3 k4 k5
  obtain ⟨k0, k1, k2, k3, k4, k5⟩ := cells6 r1 r2
  have H_r1 := Lib.hid r1; clear r1
  have H_r2 := Lib.hid r2; clear r2
  have H_r3 := Lib.hid r3; clear r3
  have H_fa := Lib.hid fa; clear fa
  go_upto_if 27 with (fail)
  go_cut [8, 9] from 27 (fun s8 s9 wx => s8 = .int .u64 X ∧ s9 = .int .i64 A1 ∧ wx = w4)
  case first =>
    rcases Nat.eq_zero_or_pos sh with h0 | h0
    · have t0 : decide (0 < sh) = false := by simp; omega
      have hXe : X = c1 := by rw [H_hX.out, h0, Nat.pow_zero, Nat.mul_one]
      have hAe : A1 = s1 := by have := H_hA1.out; omega
      have H_h0 := Lib.hid h0; clear h0
      have H_hXe := Lib.hid hXe; clear hXe
      have H_hAe := Lib.hid hAe; clear hAe
      try rw [t0]
      go_wp2_with (fail)
      go_meet
      case rel => exact ⟨by rw [H_hXe.out], by rw [H_hAe.out], rfl⟩
    · have t0 : decide (0 < sh) = true := by simp; omega
      try rw [t0]
      have H_h0 := Lib.hid h0; clear h0
      go_wp2_with (fail)
      refine (H_hlsh.out _ H_fa.out).mono ?_
      rintro e w5 ⟨rfl, hs⟩
      subst hs
      go_wp2_with (fail)
      go_meet
      case rel => exact ⟨rfl, rfl, rfl⟩
  case rest =>
    obtain ⟨rfl, rfl, hwx⟩ := hcut
    subst hwx
    go_wp2_with (fail)
    refine (H_hntz.out _ H_fa.out).mono ?_
    rintro e w41 ⟨rfl, f9⟩
    have r1 := row_fresh H_r1.out f9
    have r2 := row_fresh H_r2.out f9
    have r3 := row_fresh H_r3.out f9
    have fa := fresh_trans H_fa.out f9
    clear H_r1 H_r2 H_r3 H_fa f9
    clear k0 k1 k2 k3 k4 k5
    obtain ⟨k0, k1, k2, k3, k4, k5⟩ := cells6 r1 r2
    have H_r1 := Lib.hid r1; clear r1
    have H_r2 := Lib.hid r2; clear r2
    have H_r3 := Lib.hid r3; clear r3
    have H_fa := Lib.hid fa; clear fa
    go_upto_if 44 with (fail)
    go_cut [9, 11] from 44 (fun s9 s11 wx => s9 = .int .i64 A2 ∧ s11 = .int .u64 Y ∧ wx = w41)
    case first =>
      rcases Nat.eq_zero_or_pos k with h0 | h0
      · have t0 : decide (0 < k) = false := by simp; omega
        have hYe : Y = c2 := by rw [H_hY.out, h0, Nat.pow_zero, Nat.div_one]
        have hAe : A2 = A1 := by have := H_hA2.out; omega
        have H_h0 := Lib.hid h0; clear h0
        have H_hYe := Lib.hid hYe; clear hYe
        have H_hAe := Lib.hid hAe; clear hAe
        try rw [t0]
        go_wp2_with (fail)
        go_meet
        case rel => exact ⟨by rw [H_hAe.out], by rw [H_hYe.out], rfl⟩
      · have t0 : decide (0 < k) = true := by simp; omega
        have hrd := fun W (hW : Fresh w W) => rshDown_any c2 k W (H_hP.out.fresh hW) H_hc2.out h0 H_hk19.out
        rw [← H_hY.out] at hrd
        try rw [t0]
        have H_h0 := Lib.hid h0; clear h0
        have H_hrd := Lib.hid hrd; clear hrd
        go_wp2_with (fail)
        refine (H_hrd.out _ H_fa.out).mono ?_
        rintro e w51 ⟨rfl, hs⟩
        subst hs
        go_wp2_with (fail)
        go_meet
        case rel => exact ⟨rfl, rfl, rfl⟩
    case rest =>
      obtain ⟨rfl, rfl, hwx⟩ := hcut
      subst hwx
      rcases quoTo_cases X Y with ⟨hex, hqt⟩ | ⟨hno, hqt⟩
      case inr =>
        have hquo := H_hquo.out
        rw [hqt] at hquo
        have H_hquo := Lib.hid hquo; clear hquo
        have H_hno := Lib.hid hno; clear hno
        go_wp2_with (fail)
        refine (H_hquo.out _).mono ?_
        rintro e w61 ⟨rfl, f9⟩
        have r1 := row_fresh H_r1.out f9
        have r2 := row_fresh H_r2.out f9
        have r3 := row_fresh H_r3.out f9
        have fa := fresh_trans H_fa.out f9
        clear H_r1 H_r2 H_r3 H_fa f9
        clear k0 k1 k2 k3 k4 k5
        obtain ⟨k0, k1, k2, k3, k4, k5⟩ := cells6 r1 r2
        have H_r1 := Lib.hid r1; clear r1
        have H_r2 := Lib.hid r2; clear r2
        have H_r3 := Lib.hid r3; clear r3
        have H_fa := Lib.hid fa; clear fa
        go_wp2_with (fail)
        obtain ⟨ae, hae⟩ := H_hJ.out.fresh H_fa.out
        have hne : 2 ≠ g + 1 + 1 := by
          obtain ⟨_, h0⟩ := H_hJ.out
          have := ErrJs.lt h0
          have := H_hg.out
          omega
        have p0 := row_cell H_r3.out 0
        have p1 := row_cell H_r3.out 1
        have p2 := row_cell H_r3.out 2
        simp at p0 p1 p2
        have z0 : w61.frozen? ⟨g + 1 + 1, 0, none⟩ = false := frozen_of_row _ _ _ _ _ H_r3.out
        have z1 : w61.frozen? ⟨g + 1 + 1, 1, none⟩ = false := frozen_of_row _ _ _ _ _ H_r3.out
        have z2 : w61.frozen? ⟨g + 1 + 1, 2, none⟩ = false := frozen_of_row _ _ _ _ _ H_r3.out
        go_wp2_with (fail)
        go_region_held3 (fun (w' : World) => w'.cell? ⟨2, 0, none⟩ = some (.iface 71 (.pointer (some ae)))) (first | exact hae | exact far3 hne hae) (fail)
        go_wp2
        refine bodyPost_ret (results_cell_tmp_row rfl _ _ (g + 1 + 1) 40 #[.bool false, .int .i8 0, .int .u64 0] (0, 0) _ rfl (row_set (row_set (row_set H_r3.out))) Tryz.underlying40 rfl (by kernel_rfl)) rfl ?_
        exact .inr ⟨H_hno.out, ae, rfl, Fresh.set3 (H_fa.out.drewN 1) (by have := H_hg.out; omega)⟩
      have hquo := H_hquo.out
      rw [hqt] at hquo
      have hnf := H_hnf.out hex
      generalize X / Y = q at *
      have H_hquo := Lib.hid hquo; clear hquo
      have H_hex := Lib.hid hex; clear hex
      have H_hnf := Lib.hid hnf; clear hnf
      go_wp2_with (fail)
      refine (H_hquo.out _).mono ?_
      rintro e w61 ⟨rfl, f9⟩
      have r1 := row_fresh H_r1.out f9
      have r2 := row_fresh H_r2.out f9
      have r3 := row_fresh H_r3.out f9
      have fa := fresh_trans H_fa.out f9
      clear H_r1 H_r2 H_r3 H_fa f9
      clear k0 k1 k2 k3 k4 k5
      obtain ⟨k0, k1, k2, k3, k4, k5⟩ := cells6 r1 r2
      have H_r1 := Lib.hid r1; clear r1
      have H_r2 := Lib.hid r2; clear r2
      have H_r3 := Lib.hid r3; clear r3
      have H_fa := Lib.hid fa; clear fa
      go_wp2_with (fail)
      refine (Scale_any m2 s2 c2 _ H_hs2.out).mono ?_
      rintro e w62 ⟨rfl, f9⟩
      have r1 := row_fresh H_r1.out f9
      have r2 := row_fresh H_r2.out f9
      have r3 := row_fresh H_r3.out f9
      have fa := fresh_trans H_fa.out f9
      clear H_r1 H_r2 H_r3 H_fa f9
      clear k0 k1 k2 k3 k4 k5
      obtain ⟨k0, k1, k2, k3, k4, k5⟩ := cells6 r1 r2
      have H_r1 := Lib.hid r1; clear r1
      have H_r2 := Lib.hid r2; clear r2
      have H_r3 := Lib.hid r3; clear r3
      have H_fa := Lib.hid fa; clear fa
      go_wp2_with (fail)
      refine (IsNeg_any m2 s2 c2 _).mono ?_
      rintro e w63 ⟨rfl, f9⟩
      have r1 := row_fresh H_r1.out f9
      have r2 := row_fresh H_r2.out f9
      have r3 := row_fresh H_r3.out f9
      have fa := fresh_trans H_fa.out f9
      clear H_r1 H_r2 H_r3 H_fa f9
      clear k0 k1 k2 k3 k4 k5
      obtain ⟨k0, k1, k2, k3, k4, k5⟩ := cells6 r1 r2
      have H_r1 := Lib.hid r1; clear r1
      have H_r2 := Lib.hid r2; clear r2
      have H_r3 := Lib.hid r3; clear r3
      have H_fa := Lib.hid fa; clear fa
      go_wp2_with (fail)
      refine (H_hnf.out _ H_fa.out).mono ?_
      rintro e w99 ⟨ev, rfl, hev, f9⟩
      have r3 := row_fresh H_r3.out f9
      have p0 := row_cell r3 0
      have p1 := row_cell r3 1
      have p2 := row_cell r3 2
      simp at p0 p1 p2
      have z0 : w99.frozen? ⟨g + 1 + 1, 0, none⟩ = false := frozen_of_row _ _ _ _ _ r3
      have z1 : w99.frozen? ⟨g + 1 + 1, 1, none⟩ = false := frozen_of_row _ _ _ _ _ r3
      have z2 : w99.frozen? ⟨g + 1 + 1, 2, none⟩ = false := frozen_of_row _ _ _ _ _ r3
      have fa := fresh_trans H_fa.out f9
      clear H_r3 H_fa f9 k0 k1 k2 k3 k4 k5
      have H_r3 := Lib.hid r3; clear r3
      have H_fa := Lib.hid fa; clear fa
      have H_hev := Lib.hid hev; clear hev
      go_wp2_with (fail)
      refine bodyPost_ret (results_cell_tmp_row rfl _ _ (g + 1 + 1) 40 #[.bool nz, .int .i8 sz, .int .u64 cz] (0, 0) _ rfl (row_set (row_set (row_set H_r3.out))) Tryz.underlying40 rfl (by kernel_rfl)) rfl ?_
      exact .inl ⟨H_hex.out, ev, rfl, H_hev.out, Fresh.set3 H_fa.out (by have := H_hg.out; omega)⟩

end Go.Proofs.YtjjolcjeiogdmabGreatDoor

/- The contracts of math/bits' functions on words. -/
namespace Go.Proofs.YtjjolcjeiogdmabGreatDoor
open Go.RowKit

def addC (x y c : Nat) : Nat := (x + y + c) / 18446744073709551616
def addS (x y c : Nat) : Nat := (x + y + c) % 18446744073709551616
def subC (x y c : Nat) : Nat := if x < y + c then 1 else 0
def subS (x y c : Nat) : Nat := (x + 18446744073709551616 - y - c) % 18446744073709551616
def mulH (x y : Nat) : Nat := x * y / 18446744073709551616
def mulL (x y : Nat) : Nat := x * y % 18446744073709551616

theorem run_Add64 (x y c : Nat) (hc : c ≤ 1) (w : World) :
    (callFunc 207 #[.int .u64 x, .int .u64 y, .int .u64 c]).run Tryz.prog w =
      .ok (.value (.tuple #[.int .u64 (((x + y + c) % 18446744073709551616 : Nat) : Int), .int .u64 (((x + y + c) / 18446744073709551616 : Nat) : Int)])) w := by
  rw [run_callFunc_extern Tryz.func207 (by kernel_rfl) (by kernel_rfl) (by kernel_rfl) (e := add64Entry) (by kernel_rfl), run_add64 x y c (by omega) (by omega) (by omega) (by omega)]
  simp only [Result.andThen]
  congr 5 <;> omega

theorem run_Sub64 (x y b : Nat) (hb : b ≤ 1) (w : World) :
    (callFunc 204 #[.int .u64 x, .int .u64 y, .int .u64 b]).run Tryz.prog w =
      .ok (.value (.tuple #[.int .u64 (((x + 18446744073709551616 - y - b) % 18446744073709551616 : Nat) : Int), .int .u64 ((if x < y + b then 1 else 0 : Nat) : Int)])) w := by
  rw [run_callFunc_extern Tryz.func204 (by kernel_rfl) (by kernel_rfl) (by kernel_rfl) (e := sub64Entry) (by kernel_rfl), run_sub64 x y b hb]
  rfl

set_option maxHeartbeats 400000 in
theorem bits_Add0 (x y c : Nat) (hc : c ≤ 1) (w : World) :
    Calls Tryz.prog 188 #[.int .u64 x, .int .u64 y, .int .u64 c] w fun e w' => e = .returned (.tuple #[.int .u64 (((x + y + c) % 18446744073709551616 : Nat) : Int), .int .u64 (((x + y + c) / 18446744073709551616 : Nat) : Int)]) ∧ w = w' := by
  have hr := run_Add64 x y c hc
  go_enter Tryz.func188, Tryz.ntmps188
  go_wp2
  go_ret2
  exact ⟨rfl, rfl⟩

theorem bits_Add (x y c : Nat) (hc : c ≤ 1) (w : World) :
    Calls Tryz.prog 188 #[.int .u64 x, .int .u64 y, .int .u64 c] w fun e w' => e = .returned (.tuple #[.int .u64 (addS x y c : Nat), .int .u64 (addC x y c : Nat)]) ∧ w = w' :=
  bits_Add0 x y c hc w

set_option maxHeartbeats 400000 in
theorem bits_Sub0 (x y c : Nat) (hc : c ≤ 1) (w : World) :
    Calls Tryz.prog 181 #[.int .u64 x, .int .u64 y, .int .u64 c] w fun e w' => e = .returned (.tuple #[.int .u64 (((x + 18446744073709551616 - y - c) % 18446744073709551616 : Nat) : Int), .int .u64 ((if x < y + c then 1 else 0 : Nat) : Int)]) ∧ w = w' := by
  have hr := run_Sub64 x y c hc
  go_enter Tryz.func181, Tryz.ntmps181
  go_wp2
  all_goals (go_ret2; exact ⟨rfl, rfl⟩)

theorem bits_Sub (x y c : Nat) (hc : c ≤ 1) (w : World) :
    Calls Tryz.prog 181 #[.int .u64 x, .int .u64 y, .int .u64 c] w fun e w' => e = .returned (.tuple #[.int .u64 (subS x y c : Nat), .int .u64 (subC x y c : Nat)]) ∧ w = w' :=
  bits_Sub0 x y c hc w

section
set_option maxHeartbeats 1000000
open Mul64 in
theorem bits_Mul64 (x y : Nat) (hx : x < 18446744073709551616) (hy : y < 18446744073709551616) (w : World) :
    Calls Tryz.prog 183 #[.int .u64 x, .int .u64 y] w fun e w' => e = .returned (.tuple #[.int .u64 ((x * y / 18446744073709551616 : Nat) : Int), .int .u64 ((x * y % 18446744073709551616 : Nat) : Int)]) ∧ w = w' := by
  obtain ⟨bd, bt, bw, hhi⟩ := Lib.mul64_hi x y hx hy
  have ba := Lib.half_mul_le (a := x / 4294967296) (b := y / 4294967296) (by omega) (by omega)
  have bb := Lib.half_mul_le (a := x / 4294967296) (b := y % 4294967296) (by omega) (by omega)
  have bc := Lib.half_mul_le (a := x % 4294967296) (b := y / 4294967296) (by omega) (by omega)
  have ba' : x / 4294967296 * (y / 4294967296) < 18446744073709551616 := by omega
  have bb' : x / 4294967296 * (y % 4294967296) < 18446744073709551616 := by omega
  have bc' : x % 4294967296 * (y / 4294967296) < 18446744073709551616 := by omega
  have bh1 : x / 4294967296 * (y / 4294967296) + (x / 4294967296 * (y % 4294967296) + x % 4294967296 * (y % 4294967296) / 4294967296) / 4294967296 < 18446744073709551616 := by omega
  have bh : x / 4294967296 * (y / 4294967296) + (x / 4294967296 * (y % 4294967296) + x % 4294967296 * (y % 4294967296) / 4294967296) / 4294967296 + ((x / 4294967296 * (y % 4294967296) + x % 4294967296 * (y % 4294967296) / 4294967296) % 4294967296 + x % 4294967296 * (y / 4294967296)) / 4294967296 < 18446744073709551616 := by omega
  go_enter Tryz.func183, Tryz.ntmps183
  go_wp2
  simp only [Mul64.maskN x hx, Mul64.maskN y hy, Mul64.divN, Mul64.mulN, Mul64.addN, Mul64.wrapN _ bd, Mul64.wrapN _ bb', Mul64.wrapN _ bt, Mul64.maskN _ bt, Mul64.wrapN _ bc', Mul64.wrapN _ bw, Mul64.wrapN _ ba', Mul64.wrapN _ bh1, Mul64.wrapN _ bh, Mul64.wrapM (x * y)]
  rw [hhi]
  go_ret2
  exact ⟨rfl, rfl⟩

theorem bits_Mul0 (x y : Nat) (hx : x < 18446744073709551616) (hy : y < 18446744073709551616) (w : World) :
    Calls Tryz.prog 147 #[.int .u64 x, .int .u64 y] w fun e w' => e = .returned (.tuple #[.int .u64 ((x * y / 18446744073709551616 : Nat) : Int), .int .u64 ((x * y % 18446744073709551616 : Nat) : Int)]) ∧ w = w' := by
  go_enter Tryz.func147, Tryz.ntmps147
  go_wp2_with (go_at_call 183; refine (bits_Mul64 x y hx hy _).mono ?_; rintro e w' ⟨rfl, rfl⟩)
  go_ret2
  exact ⟨rfl, rfl⟩
end

theorem bits_Mul (x y : Nat) (hx : x < 18446744073709551616) (hy : y < 18446744073709551616) (w : World) :
    Calls Tryz.prog 147 #[.int .u64 x, .int .u64 y] w fun e w' => e = .returned (.tuple #[.int .u64 (mulH x y : Nat), .int .u64 (mulL x y : Nat)]) ∧ w = w' :=
  bits_Mul0 x y hx hy w

def maH (x y c : Nat) : Nat := (x * y + c) / 18446744073709551616
def maL (x y c : Nat) : Nat := (x * y + c) % 18446744073709551616

theorem mul_lt_sq {x y : Nat} (hx : x < 18446744073709551616) (hy : y < 18446744073709551616) : x * y ≤ 18446744073709551615 * 18446744073709551615 :=
  Nat.mul_le_mul (by omega) (by omega)

theorem maH_eq {x y c : Nat} : mulH x y + addC (mulL x y) c 0 = maH x y c := by
  unfold mulH addC mulL maH; generalize x * y = p; omega

theorem maH_lt {x y c : Nat} (hx : x < 18446744073709551616) (hy : y < 18446744073709551616) (hc : c < 18446744073709551616) : maH x y c < 18446744073709551616 := by
  have h := mul_lt_sq hx hy
  unfold maH; generalize x * y = p at *; omega

theorem maL_eq {x y c : Nat} : addS (mulL x y) c 0 = maL x y c := by
  unfold addS mulL maL; generalize x * y = p; omega

theorem maL_lt (x y c : Nat) : maL x y c < 18446744073709551616 := by unfold maL; omega
theorem addS_lt (x y c : Nat) : addS x y c < 18446744073709551616 := by unfold addS; omega
theorem subS_lt (x y c : Nat) : subS x y c < 18446744073709551616 := by unfold subS; omega
theorem subC_le (x y c : Nat) : subC x y c ≤ 1 := by unfold subC; split <;> omega
theorem addC_le {x y c : Nat} (hx : x < 18446744073709551616) (hy : y < 18446744073709551616) (hc : c ≤ 1) : addC x y c ≤ 1 := by unfold addC; omega

theorem wrap_add {a b : Nat} (h : a + b < 18446744073709551616) : IntKind.u64.wrap ((a : Int) + (b : Int)) = ((a + b : Nat) : Int) := by
  rw [IntKind.wrap_u64]; omega

set_option maxHeartbeats 400000 in
theorem mulAddWWW_g (x y c : Nat) (hx : x < 18446744073709551616) (hy : y < 18446744073709551616) (hc : c < 18446744073709551616) (w : World) :
    Calls Tryz.prog 205 #[.int .u64 x, .int .u64 y, .int .u64 c] w fun e w' => e = .returned (.tuple #[.int .u64 (maH x y c : Nat), .int .u64 (maL x y c : Nat)]) ∧ w = w' := by
  have hw := wrap_add (a := mulH x y) (b := addC (mulL x y) c 0) (by rw [maH_eq]; exact maH_lt hx hy hc)
  rw [maH_eq] at hw
  rw [← maL_eq]
  generalize maH x y c = m at *
  have HW := Lib.hid hw; clear hw
  go_enter Tryz.func205, Tryz.ntmps205
  go_wp2_with (first
    | (go_at_call 147; refine (bits_Mul x y hx hy _).mono ?_; rintro e w' ⟨rfl, rfl⟩)
    | (go_at_call 188; refine (bits_Add _ c 0 (by omega) _).mono ?_; rintro e w' ⟨rfl, rfl⟩))
  go_ret2
  refine ⟨?_, rfl⟩
  rw [HW.out]; rfl

end Go.Proofs.YtjjolcjeiogdmabGreatDoor

/- Plain arithmetic of dividing two words by one. -/
namespace Go.Proofs.YtjjolcjeiogdmabGreatDoor
open Go.RowKit

theorem mg_eq {B d k V X1 X0 q f : Nat} (hV : V * d + k = B * B) (hd : d ≤ B) (hq : q * B + f = V * X1 + X0) :
    d * q * B + (X1 * k + X0 * (B - d) + d * f) = (X1 * B + X0) * B := by
  obtain ⟨m, hm⟩ : ∃ m, B = d + m := ⟨B - d, by omega⟩
  rw [show B - d = m by omega]
  grind

theorem mg_bound {B d k V X1 X0 q f : Nat} (hV : V * d + k = B * B) (hk : k ≤ d) (hd : d ≤ B) (hd0 : 0 < d) (h1 : X1 < d) (h0 : X0 < B) (hq : q * B + f = V * X1 + X0) (hf : f < B) :
    d * q ≤ X1 * B + X0 ∧ X1 * B + X0 < d * q + (B + d) := by
  have e := mg_eq hV hd hq
  have hB : 0 < B := by omega
  constructor
  · exact Nat.le_of_mul_le_mul_right (by omega) hB
  · refine Nat.lt_of_mul_lt_mul_right (a := B) ?_
    rw [← e, Nat.add_mul, Nat.add_mul]
    have a1 : X1 * k ≤ (d - 1) * d := Nat.mul_le_mul (by omega) hk
    have a2 : X0 * (B - d) ≤ (B - 1) * (B - d) := Nat.mul_le_mul_right _ (by omega)
    have a3 : d * f ≤ d * (B - 1) := Nat.mul_le_mul_left _ (by omega)
    obtain ⟨m, hm⟩ : ∃ m, B = d + m := ⟨B - d, by omega⟩
    obtain ⟨p, hp⟩ : ∃ p, d = p + 1 := ⟨d - 1, by omega⟩
    subst hm
    subst hp
    rw [show p + 1 - 1 = p by omega] at a1
    rw [show p + 1 + m - (p + 1) = m by omega, show p + 1 + m - 1 = p + m by omega] at a2
    rw [show p + 1 + m - 1 = p + m by omega] at a3
    rw [show p + 1 + m - (p + 1) = m by omega]
    have b1 : p * (p + 1) = p * p + p := by grind
    have b2 : (p + m) * m = p * m + m * m := by grind
    have b3 : (p + 1) * (p + m) = p * p + p * m + p + m := by grind
    have b4 : (p + 1 + m) * (p + 1 + m) = p * p + m * m + 2 * (p * m) + 2 * p + 2 * m + 1 := by grind
    have b5 : (p + 1) * (p + 1 + m) = p * p + p * m + 2 * p + m + 1 := by grind
    omega

/-- the guess is put right at most twice -/
theorem mg_fix {B d q X r : Nat} (hX : X = d * q + r) (hr : r < B + d) (hB : B ≤ 2 * d) (hd : d ≤ B) (h0 : 0 < d) :
    ∃ q' r' q'' r'', ((B ≤ r ∧ q' = q + 1 ∧ r' = r - d) ∨ (r < B ∧ q' = q ∧ r' = r)) ∧ r' < B ∧ ((d ≤ r' ∧ q'' = q' + 1 ∧ r'' = r' - d) ∨ (r' < d ∧ q'' = q' ∧ r'' = r')) ∧ X = d * q'' + r'' ∧ r'' < d := by
  have e1 : d * (q + 1) = d * q + d := by rw [Nat.mul_add, Nat.mul_one]
  have e2 : d * (q + 1 + 1) = d * q + d + d := by rw [Nat.mul_add, e1, Nat.mul_one]
  by_cases h : B ≤ r
  · by_cases h2 : d ≤ r - d
    · exact ⟨q + 1, r - d, q + 1 + 1, r - d - d, .inl ⟨h, rfl, rfl⟩, by omega, .inl ⟨h2, rfl, rfl⟩, by omega, by omega⟩
    · exact ⟨q + 1, r - d, q + 1, r - d, .inl ⟨h, rfl, rfl⟩, by omega, .inr ⟨by omega, rfl, rfl⟩, by omega, by omega⟩
  · by_cases h2 : d ≤ r
    · exact ⟨q, r, q + 1, r - d, .inr ⟨by omega, rfl, rfl⟩, by omega, .inl ⟨h2, rfl, rfl⟩, by omega, by omega⟩
    · exact ⟨q, r, q, r, .inr ⟨by omega, rfl, rfl⟩, by omega, .inr ⟨by omega, rfl, rfl⟩, by omega, by omega⟩

/-- one half digit of a quotient (Knuth): y = y1 * b + y0 with y1 at least half of b; the guess q of U = u * b + u1, u < y -/
theorem kn_start {b y1 y0 u q rh : Nat} (hy0 : y0 < b) (hb : b ≤ 2 * y1) (hu : u < y1 * b + y0) (hq : q * y1 + rh = u) : q ≤ b + 1 := by
  rcases Nat.lt_or_ge (b + 1) q with h | h
  · exfalso
    have h1 : (b + 2) * y1 ≤ q * y1 := Nat.mul_le_mul_right _ (by omega)
    have h2 : (b + 2) * y1 = y1 * b + 2 * y1 := by rw [Nat.add_mul, Nat.mul_comm b]
    omega
  · exact h

/-- the guess is too great as long as it is put right -/
theorem kn_great {b y1 y0 u u1 q rh Q : Nat} (hq : q * y1 + rh = u) (hQ : Q * (y1 * b + y0) ≤ u * b + u1) (hQ2 : Q < b) (h : b ≤ q ∨ b * rh + u1 < q * y0) : Q ≤ q - 1 := by
  rcases h with h | h
  · omega
  · have h1 : u * b + u1 < q * (y1 * b + y0) := by
      have : q * (y1 * b + y0) = (q * y1 + rh) * b - b * rh + q * y0 := by
        have : (q * y1 + rh) * b = q * (y1 * b) + b * rh := by rw [Nat.add_mul, Nat.mul_assoc, Nat.mul_comm rh]
        rw [this, Nat.add_sub_cancel, Nat.mul_add]
      have h2 : (q * y1 + rh) * b = q * (y1 * b) + b * rh := by rw [Nat.add_mul, Nat.mul_assoc, Nat.mul_comm rh]
      rw [← hq]
      omega
    have h3 : Q < q := by
      rcases Nat.lt_or_ge Q q with h4 | h4
      · exact h4
      · exfalso
        have h5 := Nat.mul_le_mul_right (y1 * b + y0) h4
        omega
    omega

/-- where it ends it is not too great -/
theorem kn_end {b y1 y0 u u1 q rh : Nat} (hq : q * y1 + rh = u) (h : q * y0 ≤ b * rh + u1) : q * (y1 * b + y0) ≤ u * b + u1 := by
  have h2 : (q * y1 + rh) * b = q * (y1 * b) + b * rh := by rw [Nat.add_mul, Nat.mul_assoc, Nat.mul_comm rh]
  rw [← hq, h2, Nat.mul_add]
  omega

theorem kn_far {b y0 q rh u1 : Nat} (hy0 : y0 < b) (hq : q ≤ b) (hr : b ≤ rh) : q * y0 ≤ b * rh + u1 := by
  have h1 : q * y0 ≤ b * b := Nat.mul_le_mul hq (by omega)
  have h2 : b * b ≤ b * rh := Nat.mul_le_mul_left _ hr
  omega

theorem kn_is {Y U q Q : Nat} (hY : 0 < Y) (hQ : Q = U / Y) (h1 : Q ≤ q) (h2 : q * Y ≤ U) : q = Q := by
  have : q ≤ U / Y := by rw [Nat.le_div_iff_mul_le hY]; exact h2
  omega

end Go.Proofs.YtjjolcjeiogdmabGreatDoor
