/- FnFixMinScale's walk. -/
import Derived.Test.YthemaneoighaoaaGreatDoorTrimB
import Derived.Test.YthemaneoighaoaaGreatDoorFm
import Derived.Test.YthemaneoighaoaaGreatDoorLvD
namespace Go.Proofs.YthemaneoighaoaaGreatDoor
open Go.RowKit

theorem MinScale_any (neg : Bool) (s c : Nat) (w : World) (hP : Pow10s w) (hs : s ≤ 19) (hc : c ≤ 9999999999999999999) :
    Calls Tryz.prog 42 #[gd neg s c] w (VRet w (.int .i64 (trimN s c : Int))) := by
  rcases Nat.eq_zero_or_pos c with h0 | h0
  · subst h0
    rw [trimN_zero]
    exact MinScale_zero neg s w
  · obtain ⟨k, h1, h2⟩ := isNtz_ex 20 c h0 (by omega)
    rw [trimN_ntz s c k h1 h2]
    exact MinScale_pos neg s c k w hP hs hc h0 h1 h2

theorem IsInt_any (neg : Bool) (s c : Nat) (w : World) (hP : Pow10s w) (hs : s ≤ 19) (hc : c ≤ 9999999999999999999) :
    Calls Tryz.prog 44 #[gd neg s c] w (VRet w (.bool ((trimN s c : Int) == 0))) := by
  rcases Nat.eq_zero_or_pos s with h0 | h0
  · subst h0
    exact IsInt_zero neg c w hP
  · have h := IsInt_pos neg s c w hP hs h0 hc
    have e : (((c % 10 ^ s : Nat) : Int) == 0) = ((trimN s c : Int) == 0) := by
      rw [Bool.eq_iff_iff, beq_iff_eq, beq_iff_eq]
      have := trimN_int s c
      omega
    rw [e] at h
    exact h

theorem FnFixMinScale_out (n : Bool) (c : Nat) (s : Int) (w : World) (h : fixIs c s = false) :
    Calls Tryz.prog 4 #[.agg #[.bool n, .int .u64 c, .int .i64 s]] w (VRet w (.bool true)) := by
  have H_h := Lib.hid h; clear h
  go_enter Tryz.func4, Tryz.ntmps4
  go_wp2_with (fail)
  refine (FixIs_any n c s _).mono ?_
  rintro e w2 ⟨rfl, hf⟩
  rw [H_h.out]
  have H_hf := Lib.hid (fresh_trans ((Keep.refl _ _).alloc _) hf)
  clear hf
  go_wp2_with (fail)
  go_ret
  exact ⟨rfl, H_hf.out⟩

set_option maxRecDepth 20000 in
set_option maxHeartbeats 4000000 in
theorem FnFixMinScale_main (n : Bool) (c s : Nat) (w : World) (hP : Pow10s w) (hs : s ≤ 19) (hc : c ≤ 9999999999999999999) :
    Calls Tryz.prog 4 #[fx n c s] w (VRet w (.bool true)) := by
  have hfield : ∀ (nb : Bool) (ua : Option Addr) (un uc : Nat) (z : Int) (W : World), (Instr.field 31 (.agg #[.bool nb, .slice ua un uc, .int .i64 z]) 1).run Tryz.prog W = .ok (.int .i64 z) W := fun _ _ _ _ _ _ => by kernel_rfl
  have his : fixIs c s = true := by unfold fixIs; simp; omega
  have hmin := fun W (hW : Fresh w W) => FixMinScale_any n s c (trimN s c : Int) W hs hc (fun W2 h2 => MinScale_any _ s c W2 ((hP.fresh hW).fresh h2) hs hc)
  have hint := fun W (hW : Fresh w W) => FixIsInt_any n s c ((trimN s c : Int) == 0) W hs hc (fun W2 h2 => IsInt_any _ s c W2 ((hP.fresh hW).fresh h2) hs hc)
  have ht19 : trimN s c ≤ 19 := Nat.le_trans (trimN_le s c) hs
  obtain ⟨t, ht⟩ : ∃ t, t = trimN s c := ⟨_, rfl⟩
  rw [← ht] at hmin hint ht19
  obtain ⟨b, hb⟩ : ∃ b, ((t : Int) == 0) = b := ⟨_, rfl⟩
  rw [hb] at hint
  have tw : IntKind.i64.wrap (t : Int) = (t : Int) := wrap_nat t (by omega)
  obtain ⟨g, hg⟩ : ∃ g, g = w.heap.size := ⟨_, rfl⟩
  have bx := box1 w #[.bool n, .int .u64 c, .int .i64 s] 24 g hg
  have H_bx := Lib.hid bx; clear bx
  have H_his := Lib.hid his; clear his
  have H_hmin := Lib.hid hmin; clear hmin
  have H_hint := Lib.hid hint; clear hint
  have H_ht := Lib.hid ht; clear ht
  have H_hP := Lib.hid hP; clear hP
  go_enter Tryz.func4, Tryz.ntmps4
  go_wp2_with (fail)
  generalize hw1 : w.alloc _ = w1
  rw [← hg]
  obtain ⟨b1, hf⟩ := H_bx.out w1 hw1
  refine (FixIs_any n c s _).mono ?_
  rintro e w2 ⟨rfl, f2⟩
  rw [H_his.out]
  have d := row_fresh b1 f2
  have f := fresh_trans hf f2
  have k0 := row_cell d 0
  have k1 := row_cell d 1
  have k2 := row_cell d 2
  simp at k0 k1 k2
  have H_b1 := Lib.hid b1; clear b1
  have H_hf := Lib.hid hf; clear hf
  have H_hw1 := Lib.hid hw1; clear hw1
  have H_hg := Lib.hid hg; clear hg
  have H_f2 := Lib.hid f2; clear f2
  have H_d := Lib.hid d; clear d
  have H_f := Lib.hid f; clear f
  go_wp2_with (fail)
  refine (H_hmin.out _ H_f.out).mono ?_
  rintro e w3 ⟨rfl, f3⟩
  have m0 := cell_fresh k0 f3
  have m1 := cell_fresh k1 f3
  have m2 := cell_fresh k2 f3
  have f4 := fresh_trans H_f.out f3
  clear k0 k1 k2
  have H_f3 := Lib.hid f3; clear f3
  have H_f4 := Lib.hid f4; clear f4
  go_wp2_with (fail)
  refine (H_hint.out _ H_f4.out).mono ?_
  rintro e w4 ⟨rfl, f5⟩
  have k0 := cell_fresh m0 f5
  have k1 := cell_fresh m1 f5
  have k2 := cell_fresh m2 f5
  have f6 := fresh_trans H_f4.out f5
  clear m0 m1 m2
  have H_f5 := Lib.hid f5; clear f5
  have H_f6 := Lib.hid f6; clear f6
  go_wp2_with (fail)
  refine (FixDec_any n c s _ hs hc).mono ?_
  rintro e w5 ⟨v, l, rfl, r1, r2, r3, r⟩
  have hl : l.length ≤ 3 := len_of r2 r3 hc
  have f7 := fresh_trans H_f6.out r
  clear k0 k1 k2
  have H_r := Lib.hid r; clear r
  have H_r1 := Lib.hid r1; clear r1
  have H_r2 := Lib.hid r2; clear r2
  have H_r3 := Lib.hid r3; clear r3
  have H_f7 := Lib.hid f7; clear f7
  go_wp2_with (fail)
  refine (Trim_any _ v l s _ H_r1.out H_r2.out (by omega) (by omega)).mono ?_
  rintro e w6 ⟨nb, ua, un, uc, rfl, f8⟩
  rw [H_r3.out, ← H_ht.out]
  have f9 := fresh_trans H_f7.out f8
  have H_f8 := Lib.hid f8; clear f8
  have H_f9 := Lib.hid f9; clear f9
  go_wp2_with (fail)
  refine (gvLives_any _).mono ?_
  rintro e w7 ⟨rfl, f10⟩
  have fA := fresh_trans H_f9.out f10
  have H_f10 := Lib.hid f10; clear f10
  have H_fA := Lib.hid fA; clear fA
  go_wp2_with (fail)
  go_ret
  exact ⟨by rfl, H_fA.out⟩

end Go.Proofs.YthemaneoighaoaaGreatDoor
