/- FnFixKinds's walk. -/
import Derived.Test.YthemaneoighaoaaGreatDoorKsp
import Derived.Test.YthemaneoighaoaaGreatDoorSStr
import Derived.Test.YthemaneoighaoaaGreatDoorFk
import Derived.Test.YthemaneoighaoaaGreatDoorKind
import Derived.Test.YthemaneoighaoaaGreatDoorLvD
namespace Go.Proofs.YthemaneoighaoaaGreatDoor
open Go.RowKit

theorem gsign_eq (n : Bool) (c : Nat) : gsign (n && decide (0 < c)) c = cmpZ (zfix n c) 0 := by
  unfold gsign cmpZ zfix
  rcases Nat.eq_zero_or_pos c with h | h
  · subst h; cases n <;> simp
  · have h1 : decide (0 < c) = true := by simp; omega
    rw [h1]
    cases n
    · simp only [Bool.false_and, Bool.false_eq_true, if_false]
      rw [if_neg (by omega), if_neg (by omega), if_pos (by omega)]
    · simp only [Bool.true_and, if_true]
      rw [if_pos (by omega)]

theorem natAbs_zfix (n : Bool) (c : Nat) : (zfix n c).natAbs = c := by unfold zfix; split <;> simp

theorem order_of (n : Bool) (c x : Nat) : ∃ o : Int, cmpZ (((zfix n c).natAbs : Int) * ((1 : Nat) : Int)) (((1 : Nat) : Int) * (x : Int)) = o ∧ (o == 0) = ((c : Int) == (x : Int)) ∧ decide (o < 0) = decide (c < x) := by
  refine ⟨_, rfl, ?_, ?_⟩ <;> rw [natAbs_zfix] <;> unfold cmpZ
  · rw [Bool.eq_iff_iff, beq_iff_eq, beq_iff_eq]
    split
    · omega
    · split <;> omega
  · rw [decide_eq_decide]
    split
    · omega
    · split <;> omega

theorem FnFixKinds_out (n : Bool) (c : Nat) (s : Int) (w : World) (h : fixIs c s = false) :
    Calls Tryz.prog 5 #[.agg #[.bool n, .int .u64 c, .int .i64 s]] w (VRet w (.bool true)) := by
  have H_h := Lib.hid h; clear h
  go_enter Tryz.func5, Tryz.ntmps5
  go_wp2_with (fail)
  refine (FixIs_any n c s _).mono ?_
  rintro e w2 ⟨rfl, hf⟩
  rw [H_h.out]
  have H_hf := Lib.hid (fresh_trans ((Keep.refl _ _).alloc _) hf)
  clear hf
  go_wp2_with (fail)
  go_ret
  exact ⟨rfl, H_hf.out⟩

set_option maxRecDepth 20000 in
set_option maxHeartbeats 8000000 in
theorem FnFixKinds_main (n : Bool) (c s : Nat) (w : World) (hP : Pow10s w) (hs : s ≤ 19) (hc : c ≤ 9999999999999999999) :
    Calls Tryz.prog 5 #[fx n c s] w (VRet w (.bool true)) := by
  have his : fixIs c s = true := by unfold fixIs; simp; omega
  obtain ⟨p, hp20, hp⟩ := isPrec_ex 20 c (by omega)
  have hsign := fun W (hW : Fresh w W) => FixSign_any n s c (gsign (n && decide (0 < c)) c) W hs hc (fun W2 h2 => Sign_any _ s c W2)
  have hone := fun W (hW : Fresh w W) => FixIsOne_any n s c ((c : Int) == ((10 ^ s : Nat) : Int)) W hs hc (fun W2 h2 => IsOne_any _ s c W2 ((hP.fresh hW).fresh h2) hs)
  have hwith := fun W (hW : Fresh w W) => FixWithinOne_any n s c (decide (c < 10 ^ s)) W hs hc (fun W2 h2 => WithinOne_any _ s c W2 ((hP.fresh hW).fresh h2) hs)
  have hprec := fun W (hW : Fresh w W) => FixPrec_any n s c (p : Int) W hs hc (fun W2 h2 => Prec_any _ s c p W2 ((hP.fresh hW).fresh h2) hc hp)
  obtain ⟨o, ho1, ho2, ho3⟩ := order_of n c (10 ^ s)
  rw [gsign_eq] at hsign
  obtain ⟨sg, hsg⟩ : ∃ sg, sg = cmpZ (zfix n c) 0 := ⟨_, rfl⟩
  rw [← hsg] at hsign
  obtain ⟨b1, hb1⟩ : ∃ b1, b1 = ((c : Int) == ((10 ^ s : Nat) : Int)) := ⟨_, rfl⟩
  obtain ⟨b2, hb2⟩ : ∃ b2, b2 = decide (c < 10 ^ s) := ⟨_, rfl⟩
  rw [← hb1] at hone ho2
  rw [← hb2] at hwith ho3
  obtain ⟨g, hg⟩ : ∃ g, g = w.heap.size := ⟨_, rfl⟩
  have bx := box1 w #[.bool n, .int .u64 c, .int .i64 s] 24 g hg
  clear hb1 hb2
  have H_bx := Lib.hid bx; clear bx
  have H_his := Lib.hid his; clear his
  have H_hsign := Lib.hid hsign; clear hsign
  have H_hone := Lib.hid hone; clear hone
  have H_hwith := Lib.hid hwith; clear hwith
  have H_hprec := Lib.hid hprec; clear hprec
  have H_ho1 := Lib.hid ho1; clear ho1
  have H_hsg := Lib.hid hsg; clear hsg
  have H_hP := Lib.hid hP; clear hP
  have H_hp := Lib.hid hp; clear hp
  go_enter Tryz.func5, Tryz.ntmps5
  go_wp2_with (fail)
  generalize hw1 : w.alloc _ = w1
  rw [← hg]
  obtain ⟨b1_, hf⟩ := H_bx.out w1 hw1
  refine (FixIs_any n c s _).mono ?_
  rintro e w2 ⟨rfl, f2⟩
  rw [H_his.out]
  have d := row_fresh b1_ f2
  have f := fresh_trans hf f2
  have k0 := row_cell d 0
  have k1 := row_cell d 1
  have k2 := row_cell d 2
  simp at k0 k1 k2
  have H_b1_ := Lib.hid b1_; clear b1_
  have H_hf := Lib.hid hf; clear hf
  have H_hw1 := Lib.hid hw1; clear hw1
  have H_hg := Lib.hid hg; clear hg
  have H_f2 := Lib.hid f2; clear f2
  have H_d := Lib.hid d; clear d
  have H_f := Lib.hid f; clear f
  go_wp2_with (fail)
  refine (FixNum_any n c s _ hs hc).mono ?_
  rintro e w3 ⟨x, rfl, hx, r⟩
  have d3 := row_fresh H_d.out r
  have f3 := fresh_trans H_f.out r
  have hxx := hx
  obtain ⟨nb, v2, l2, dv, dl, rfl, s1, s2, s3, s4, s5, s6, s7⟩ := hx
  obtain ⟨a2, cc2, rfl⟩ := s1.form
  obtain ⟨a3, cc3, rfl⟩ := s5.form
  have z0 := row_cell d3 0
  have z1 := row_cell d3 1
  have z2 := row_cell d3 2
  simp at z0 z1 z2
  have k0_ := fun o => cell_fresh z0 ((Keep.refl (fun _ => False) w3).alloc o)
  have k1_ := fun o => cell_fresh z1 ((Keep.refl (fun _ => False) w3).alloc o)
  have k2_ := fun o => cell_fresh z2 ((Keep.refl (fun _ => False) w3).alloc o)
  clear k0 k1 k2 z0 z1 z2 s1 s2 s3 s4 s5 s6 s7
  obtain ⟨X, hX⟩ : ∃ X, X = w3.heap.size := ⟨_, rfl⟩
  have H_d3 := Lib.hid d3; clear d3
  have H_f3 := Lib.hid f3; clear f3
  have H_hxx := Lib.hid hxx; clear hxx
  have H_r := Lib.hid r; clear r
  have H_hX := Lib.hid hX; clear hX
  go_wp2_with (fail)
  generalize hw4 : w3.alloc _ = w4
  rw [← H_hX.out]
  have x4 : w4.heap[X]? = some (.cells #[.bool nb, .slice a2 l2.length cc2, .slice a3 dl.length cc3] 47 (0, 0)) := by rw [← hw4, H_hX.out]; exact heap_alloc_new w3 _
  have g4 : Fresh w3 w4 := by rw [← hw4]; exact (Keep.refl _ _).alloc _
  have f4 := fresh_trans H_f3.out g4
  have d4 := row_fresh H_d3.out g4
  have h4 := H_hxx.out.fresh g4
  clear k0_ k1_ k2_
  have H_x4 := Lib.hid x4; clear x4
  have H_g4 := Lib.hid g4; clear g4
  have H_f4 := Lib.hid f4; clear f4
  have H_d4 := Lib.hid d4; clear d4
  have H_h4 := Lib.hid h4; clear h4
  have H_hw4 := Lib.hid hw4; clear hw4
  refine (H_hsign.out _ H_f4.out).mono ?_
  rintro e w5 ⟨rfl, r5⟩
  have f5 := fresh_trans H_f4.out r5
  have d5 := row_fresh H_d4.out r5
  have x5 := row_fresh H_x4.out r5
  have h5 := H_h4.out.fresh r5
  have k0 := row_cell d5 0
  have k1 := row_cell d5 1
  have k2 := row_cell d5 2
  simp at k0 k1 k2
  have H_f5 := Lib.hid f5; clear f5
  have H_d5 := Lib.hid d5; clear d5
  have H_x5 := Lib.hid x5; clear x5
  have H_h5 := Lib.hid h5; clear h5
  have H_r5 := Lib.hid r5; clear r5
  go_wp2_with (fail)
  refine (H_hone.out _ H_f5.out).mono ?_
  rintro e w6 ⟨rfl, r6⟩
  have f6 := fresh_trans H_f5.out r6
  have d6 := row_fresh H_d5.out r6
  have x6 := row_fresh H_x5.out r6
  have h6 := H_h5.out.fresh r6
  clear k0 k1 k2
  have k0 := row_cell d6 0
  have k1 := row_cell d6 1
  have k2 := row_cell d6 2
  simp at k0 k1 k2
  have H_f6 := Lib.hid f6; clear f6
  have H_d6 := Lib.hid d6; clear d6
  have H_x6 := Lib.hid x6; clear x6
  have H_h6 := Lib.hid h6; clear h6
  have H_r6 := Lib.hid r6; clear r6
  go_wp2_with (fail)
  refine (H_hwith.out _ H_f6.out).mono ?_
  rintro e w7 ⟨rfl, r7⟩
  have f7 := fresh_trans H_f6.out r7
  have d7 := row_fresh H_d6.out r7
  have x7 := row_fresh H_x6.out r7
  have h7 := H_h6.out.fresh r7
  clear k0 k1 k2
  have k0 := row_cell d7 0
  have k1 := row_cell d7 1
  have k2 := row_cell d7 2
  simp at k0 k1 k2
  have H_f7 := Lib.hid f7; clear f7
  have H_d7 := Lib.hid d7; clear d7
  have H_x7 := Lib.hid x7; clear x7
  have H_h7 := Lib.hid h7; clear h7
  have H_r7 := Lib.hid r7; clear r7
  go_wp2_with (fail)
  refine (H_hprec.out _ H_f7.out).mono ?_
  rintro e w8 ⟨rfl, r8⟩
  have f8 := fresh_trans H_f7.out r8
  have d8 := row_fresh H_d7.out r8
  have x8 := row_fresh H_x7.out r8
  have h8 := H_h7.out.fresh r8
  clear k0 k1 k2
  have k0 := row_cell x8 0
  have k1 := row_cell x8 1
  have k2 := row_cell x8 2
  simp at k0 k1 k2
  have H_f8 := Lib.hid f8; clear f8
  have H_d8 := Lib.hid d8; clear d8
  have H_x8 := Lib.hid x8; clear x8
  have H_h8 := Lib.hid h8; clear h8
  have H_r8 := Lib.hid r8; clear r8
  go_wp2_with (fail)
  refine (FracAbs_any _ _ _ _ H_h8.out).mono ?_
  rintro e w9 ⟨y, rfl, hy, r9⟩
  obtain ⟨nb9, v9, l9, dv9, dl9, rfl, hy9⟩ := hy
  have hy : SFr w9 (.agg #[.bool nb9, v9, dv9]) (((zfix n c).natAbs : Int)) (10 ^ s) := ⟨nb9, v9, l9, dv9, dl9, rfl, hy9⟩
  clear hy9 k0 k1 k2
  have H_hy := Lib.hid hy; clear hy
  have H_r9 := Lib.hid r9; clear r9
  go_wp2_with (fail)
  refine (Int_pos 1 _ (by omega)).mono ?_
  rintro e w10 ⟨y2, rfl, hy2, r10⟩
  have hy1 := H_hy.out.fresh r10
  have H_hy2 := Lib.hid hy2; clear hy2
  have H_r10 := Lib.hid r10; clear r10
  have H_hy1 := Lib.hid hy1; clear hy1
  go_wp2_with (fail)
  refine (FracCmp_any _ _ _ _ _ _ _ H_hy1.out H_hy2.out (by simpa using zfix_spow hc) (by have : 1 < spow 1000 := Nat.lt_of_lt_of_le (by decide) (spow_mono (m := 1) (n := 1000) (by omega)); simpa using this) (ten_spow hs) (by have : 1 < spow 1000 := Nat.lt_of_lt_of_le (by decide) (spow_mono (m := 1) (n := 1000) (by omega)); exact this)).mono ?_
  rintro e w11 ⟨rfl, r11⟩
  rw [H_ho1.out]
  have rr := fresh_trans (fresh_trans H_r9.out H_r10.out) r11
  have f11 := fresh_trans H_f8.out rr
  have d11 := row_fresh H_d8.out rr
  have x11 := row_fresh H_x8.out rr
  have h11 := H_h8.out.fresh rr
  have k0 := row_cell x11 0
  have k1 := row_cell x11 1
  have k2 := row_cell x11 2
  simp at k0 k1 k2
  have H_f11 := Lib.hid f11; clear f11
  have H_d11 := Lib.hid d11; clear d11
  have H_x11 := Lib.hid x11; clear x11
  have H_h11 := Lib.hid h11; clear h11
  have H_rr := Lib.hid rr; clear rr
  have H_r11 := Lib.hid r11; clear r11
  go_wp2_with (fail)
  have hwh : SWh w11 (swh nb (.slice a2 l2.length cc2)) (zfix n c) := by
    obtain ⟨nb_, v_, l_, dv_, dl_, he, s1, s2, s3, s4, _⟩ := H_h11.out
    cases he
    exact ⟨nb, _, l_, rfl, s1, s2, s3, s4⟩
  refine (WholeSign_any _ _ _ hwh).mono ?_
  rintro e w12 ⟨rfl, r12⟩
  rw [← H_hsg.out]
  have f12 := fresh_trans H_f11.out r12
  have d12 := row_fresh H_d11.out r12
  clear hwh k0 k1 k2
  have k0 := row_cell d12 0
  have k1 := row_cell d12 1
  have k2 := row_cell d12 2
  simp at k0 k1 k2
  have H_f12 := Lib.hid f12; clear f12
  have H_d12 := Lib.hid d12; clear d12
  have H_r12 := Lib.hid r12; clear r12
  go_wp2_with (fail)
  refine (NatFrom_any c _ (by omega)).mono ?_
  rintro e w13 ⟨v13, l13, rfl, q1, q2, q3, r13⟩
  have f13 := fresh_trans H_f12.out r13
  have hl13 : l13.length ≤ 3 := len_of q2 q3 hc
  have hp13 : IsPrec (sval l13) p := by rw [q3]; exact H_hp.out
  have H_f13 := Lib.hid f13; clear f13
  have H_q1 := Lib.hid q1; clear q1
  have H_q2 := Lib.hid q2; clear q2
  have H_q3 := Lib.hid q3; clear q3
  have H_r13 := Lib.hid r13; clear r13
  have H_hp13 := Lib.hid hp13; clear hp13
  go_wp2_with (fail)
  refine (Digits_any v13 l13 p _ H_q1.out H_q2.out (by omega) H_hp13.out (by omega)).mono ?_
  rintro e w14 ⟨rfl, r14⟩
  have f14 := fresh_trans H_f13.out r14
  have H_f14 := Lib.hid f14; clear f14
  have H_r14 := Lib.hid r14; clear r14
  go_wp2_with (fail)
  refine (gvLives_any _).mono ?_
  rintro e w15 ⟨rfl, r15⟩
  have f15 := fresh_trans H_f14.out r15
  have H_f15 := Lib.hid f15; clear f15
  have H_r15 := Lib.hid r15; clear r15
  go_wp2_with (fail)
  go_ret
  exact ⟨by rfl, H_f15.out⟩

end Go.Proofs.YthemaneoighaoaaGreatDoor
