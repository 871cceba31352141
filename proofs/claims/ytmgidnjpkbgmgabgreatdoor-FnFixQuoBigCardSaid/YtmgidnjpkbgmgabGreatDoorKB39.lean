/- The number of digits of a bint. -/
import Derived.Test.YtmgidnjpkbgmgabGreatDoorKB22
import Derived.Test.YtmgidnjpkbgmgabGreatDoorKB37
namespace Go.Proofs.YtmgidnjpkbgmgabGreatDoor
open Go.RowKit

theorem cmpN_ways (a b : Nat) : (cmpN a b = 1 ∧ b < a) ∨ (cmpN a b = -1 ∧ a < b) ∨ (cmpN a b = 0 ∧ a = b) := by
  rcases Nat.lt_trichotomy a b with h | h | h
  · exact .inr (.inl ⟨cmpN_lt h, h⟩)
  · subst h; exact .inr (.inr ⟨cmpN_eq a, rfl⟩)
  · exact .inl ⟨cmpN_gt h, h⟩

set_option maxRecDepth 20000 in
set_option maxHeartbeats 4000000 in
theorem bprec_any (g c p : Nat) (v : Value) (w : World) (hG : Glob w) (hP : Pow10s w) (hp : IsPrec c p) (hc : c < 10 ^ 99) (hb : BI w g v c) :
    Calls Tryz.prog 109 #[.pointer (some ⟨g, 0, none⟩)] w (VRet w (.int .i64 p)) := by
  have hp99 : p ≤ 99 := hp.lt_iff.1 hc
  have hcw : c < wpow 39 := Nat.lt_trans hc (wpow_ten (by omega))
  have hlt99 : cmpN c (10 ^ 99) = -1 := cmpN_lt hc
  have H_hG := Lib.hid hG; clear hG
  have H_hP := Lib.hid hP; clear hP
  have H_hp := Lib.hid hp; clear hp
  have H_hb := Lib.hid hb; clear hb
  have H_hcw := Lib.hid hcw; clear hcw
  have H_hlt99 := Lib.hid hlt99; clear hlt99
  have H_hc := Lib.hid hc; clear hc
  go_enter Tryz.func109, Tryz.ntmps109
  go_wp2_with (fail)
  refine (bpow10_all 99 w H_hG.out H_hP.out (by omega)).mono ?_
  rintro e w2 ⟨h, u, rfl, hb2, hh, _, f2⟩
  have hne : g ≠ h := by have := H_hb.out.lt; omega
  have hc1 := bcmp_any g h v u c (10 ^ 99) w2 H_hcw.out (wpow_ten (by omega)) hne (H_hb.out.fresh f2) hb2
  rw [H_hlt99.out] at hc1
  have H_f2 := Lib.hid f2; clear f2
  have H_hc1 := Lib.hid hc1; clear hc1
  have H_hb2 := Lib.hid hb2; clear hb2
  have H_hh := Lib.hid hh; clear hh
  have H_hne := Lib.hid hne; clear hne
  go_wp2_with (fail)
  refine H_hc1.out.mono ?_
  rintro e w3 ⟨rfl, n3, rfl⟩
  have f3 : Fresh w (w2.drewN n3) := H_f2.out.drewN n3
  generalize w2.drewN n3 = w3 at *
  have H_f3 := Lib.hid f3; clear f3
  go_wp2_with (fail)
  go_loopw [3, 4] (fun l r wr => ∃ a b : Nat, a ≤ p ∧ p ≤ b ∧ b ≤ 100 ∧ l = .int .i64 a ∧ r = .int .i64 b ∧ Hid (Fresh w wr)) (fun l r _ => (intOf r).toNat - (intOf l).toNat)
  case atStart => exact ⟨0, 100, by omega, by omega, by omega, rfl, rfl, H_f3⟩
  case round =>
    obtain ⟨a, b, ha, hb, hb2, rfl, rfl, hf⟩ := hrel
    by_cases hlt : a < b
    · have t1 : decide ((a : Int) < (b : Int)) = true := by simp; omega
      have hq := half_sum a b
      obtain ⟨m, hm⟩ : ∃ m, m = (a + b) / 2 := ⟨_, rfl⟩
      rw [← hm] at hq
      have hm1 : a ≤ m := by omega
      have hm2 : m < b := by omega
      have hiff := H_hp.out.lt_iff (m := m)
      have hbp := bpow10_all m wr (H_hG.out.fresh hf.out) (H_hP.out.fresh hf.out) (by omega)
      clear hm
      have H_hbp := Lib.hid hbp; clear hbp
      have H_hiff := Lib.hid hiff; clear hiff
      go_wp2_with (fail)
      refine H_hbp.out.mono ?_
      rintro e w5 ⟨h, u, rfl, hb5, hh, _, f5⟩
      have hne : g ≠ h := by have := H_hb.out.lt; have := hf.out.size; omega
      have hc1 := bcmp_any g h v u c (10 ^ m) w5 H_hcw.out (wpow_ten (by omega)) hne ((H_hb.out.fresh hf.out).fresh f5) hb5
      have f5' := fresh_trans hf.out f5
      by_cases hle : p ≤ m
      · rw [cmpN_lt (H_hiff.out.2 hle)] at hc1
        have H_hc1 := Lib.hid hc1; clear hc1
        have H_f5 := Lib.hid f5; clear f5
        have H_f5' := Lib.hid f5'; clear f5'
        have H_hb5 := Lib.hid hb5; clear hb5
        have H_hh := Lib.hid hh; clear hh
        have H_hne := Lib.hid hne; clear hne
        go_wp2_with (fail)
        refine H_hc1.out.mono ?_
        rintro e w6 ⟨rfl, n6, rfl⟩
        have f6 : Fresh w (w5.drewN n6) := H_f5'.out.drewN n6
        generalize w5.drewN n6 = w6 at *
        have H_f6 := Lib.hid f6; clear f6
        go_wp2_with (fail)
        go_roundw
        case rel => exact ⟨a, m, ha, hle, by omega, rfl, rfl, H_f6⟩
        case measure => simp [intOf]; omega
      · have hge : 10 ^ m ≤ c := Nat.le_of_not_lt (fun h => hle (H_hiff.out.1 h))
        have hz : cmpN c (10 ^ m) = 0 ∨ cmpN c (10 ^ m) = 1 := by
          rcases cmpN_ways c (10 ^ m) with ⟨h, _⟩ | ⟨_, h⟩ | ⟨h, _⟩
          · exact .inr h
          · omega
          · exact .inl h
        generalize cmpN c (10 ^ m) = z at *
        have hz0 : ¬ z < 0 := by omega
        have t2 : decide (z < 0) = false := by simp; omega
        clear hz hge
        have H_hc1 := Lib.hid hc1; clear hc1
        have H_f5 := Lib.hid f5; clear f5
        have H_f5' := Lib.hid f5'; clear f5'
        have H_hb5 := Lib.hid hb5; clear hb5
        have H_hh := Lib.hid hh; clear hh
        have H_hne := Lib.hid hne; clear hne
        go_wp2_with (fail)
        refine H_hc1.out.mono ?_
        rintro e w6 ⟨rfl, n6, rfl⟩
        have f6 : Fresh w (w5.drewN n6) := H_f5'.out.drewN n6
        generalize w5.drewN n6 = w6 at *
        have H_f6 := Lib.hid f6; clear f6
        go_wp2_with (fail)
        go_roundw
        case rel => exact ⟨m + 1, b, by omega, hb, hb2, by simp, rfl, H_f6⟩
        case measure => simp [intOf]; omega
    · obtain rfl : a = b := by omega
      obtain rfl : a = p := by omega
      have t1 : decide ((a : Int) < (a : Int)) = false := by simp
      go_wp2_with (fail)
      go_ret
      exact ⟨rfl, hf.out⟩

end Go.Proofs.YtmgidnjpkbgmgabGreatDoor
