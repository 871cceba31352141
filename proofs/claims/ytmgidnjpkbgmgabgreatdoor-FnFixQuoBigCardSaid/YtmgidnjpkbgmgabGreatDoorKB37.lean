/- bpow10 for all powers that are kept, and the number of digits of a bint. -/
import Derived.Test.YtmgidnjpkbgmgabGreatDoorKB22
namespace Go.Proofs.YtmgidnjpkbgmgabGreatDoor
open Go.RowKit

theorem wpow_ten {n : Nat} (h : n ≤ 120) : 10 ^ n < wpow 39 := by
  have h1 : 10 ^ n ≤ 10 ^ 120 := Nat.pow_le_pow_right (by omega) h
  have h2 : 10 ^ 120 < wpow 39 := by unfold wpow; decide
  omega

set_option maxRecDepth 20000 in
set_option maxHeartbeats 4000000 in
theorem bpow10_all (n : Nat) (w : World) (hG : Glob w) (hP : Pow10s w) (hn : n < 100) : Calls Tryz.prog 111 #[.int .i64 n] w (BRet w (10 ^ n)) := by
  have t1 : decide ((n : Int) < 0) = false := by simp
  have t2 : decide ((100 : Int) ≤ (n : Int)) = false := by simp; omega
  obtain ⟨g, hg⟩ : ∃ g, g = w.heap.size := ⟨_, rfl⟩
  have bx := box1 w #[.bool false, .slice none 0 0] 136 g hg
  have hGs := hG.size
  have H_bx := Lib.hid bx; clear bx
  have H_hG := Lib.hid hG; clear hG
  have H_hP := Lib.hid hP; clear hP
  have H_hGs := Lib.hid hGs; clear hGs
  go_enter Tryz.func111, Tryz.ntmps111
  go_wp2_with (fail)
  generalize hw1 : w.alloc _ = w1
  rw [← hg]
  obtain ⟨b1, hf⟩ := H_bx.out w1 hw1
  have hb0 := IntIs.new b1 (by have := H_hGs.out; omega)
  have H_b1 := Lib.hid b1; clear b1
  have H_hw1 := Lib.hid hw1; clear hw1
  have H_hg := Lib.hid hg; clear hg
  have H_hf := Lib.hid hf; clear hf
  refine (SetUint64_any g false _ [] 1 _ (by omega) hb0).mono ?_
  clear hb0
  intro e w2 hr
  obtain ⟨rfl, hb⟩ := hr.bset
  clear hr
  obtain ⟨v, b2, ov, f2⟩ := hb.fresh_of H_hf.out (by have := H_hg.out; omega) (fun k h => by simp [Value.ownBlock] at h)
  clear hb
  have H_b2 := Lib.hid b2; clear b2
  have H_ov := Lib.hid ov; clear ov
  have H_f2 := Lib.hid f2; clear f2
  go_wp2_with (fail)
  go_loopw [0] (fun i wr => ∃ (k m : Nat) (v : Value), i = .int .i64 k ∧ m + k = n ∧ Hid (BI wr g v (10 ^ m)) ∧ Hid (∀ k, v.ownBlock = some k → w.heap.size ≤ k) ∧ Hid (Fresh w wr)) (fun i _ => (intOf i).toNat)
  case atStart => exact ⟨n, 0, v, rfl, by omega, H_b2, H_ov, H_f2⟩
  case round =>
    obtain ⟨k, m, v, rfl, hmk, hb2, hov, hf2⟩ := hrel
    have hcl := H_hP.out (if 19 < k then 19 else k) (by split <;> omega)
    have hxl : 10 ^ (if 19 < k then 19 else k) < 18446744073709551616 := by
      have : 10 ^ (if 19 < k then 19 else k) ≤ 10 ^ 19 := Nat.pow_le_pow_right (by omega) (by split <;> omega)
      omega
    have hm120 : 10 ^ m < wpow 39 := wpow_ten (by omega)
    have hmul : 10 ^ m * 10 ^ (if 19 < k then 19 else k) = 10 ^ (m + (if 19 < k then 19 else k)) := by rw [← Nat.pow_add]
    obtain ⟨h, hh⟩ : ∃ h, h = wr.heap.size := ⟨_, rfl⟩
    have by_ := box1 wr #[.bool false, .slice none 0 0] 136 h hh
    have hc2 := cell_fresh (cell_fresh hcl hf2.out) ((Keep.refl (fun _ => False) wr).alloc (.cells #[.bool false, .slice none 0 0] 136))
    by_cases hk : 19 < k
    · rw [if_pos hk] at hcl hxl hmul hc2
      obtain ⟨x, hx⟩ : ∃ x, x = 10 ^ 19 := ⟨_, rfl⟩
      obtain ⟨q, hq⟩ : ∃ q, q = k - 19 := ⟨_, rfl⟩
      have hqI : (k : Int) - 19 = (q : Int) := by omega
      have t3 : decide ((19 : Int) < (k : Int)) = true := by simp; omega
      rw [← hx] at hcl hxl hmul hc2
      clear hcl
      have H_by_ := Lib.hid by_; clear by_
      have H_hxl := Lib.hid hxl; clear hxl
      have H_hmul := Lib.hid hmul; clear hmul
      have H_hx := Lib.hid hx; clear hx
      have H_hq := Lib.hid hq; clear hq
      have H_hm120 := Lib.hid hm120; clear hm120
      go_wp2_with (fail)
      generalize hw3 : wr.alloc _ = w3
      rw [← hh]
      obtain ⟨b3, hf3⟩ := H_by_.out w3 hw3
      have hb0 := IntIs.new b3 (by have := H_hGs.out; have := hf2.out.size; omega)
      have H_b3 := Lib.hid b3; clear b3
      have H_hw3 := Lib.hid hw3; clear hw3
      have H_hh := Lib.hid hh; clear hh
      have H_hf3 := Lib.hid hf3; clear hf3
      clear hc2
      refine (SetUint64_any h false _ [] x _ H_hxl.out hb0).mono ?_
      clear hb0
      intro e w4 hr
      obtain ⟨rfl, hb4⟩ := hr.bset
      clear hr
      have hne : g ≠ h := by have := hb2.out.lt; have := H_hh.out; omega
      obtain ⟨v4, b4, o4, f4⟩ := hb4.fresh_of H_hf3.out (by have := H_hh.out; omega) (fun k h => by simp [Value.ownBlock] at h)
      have c4 := hb2.out.fresh f4
      have hsep : Sep v v4 := .inr (fun k hk e => by have := hb2.out.own_lt hk; have := o4 k e; omega)
      have hG4 := (H_hG.out.fresh hf2.out).fresh f4
      have f24 := fresh_trans hf2.out f4
      clear hb4
      have H_b4 := Lib.hid b4; clear b4
      have H_o4 := Lib.hid o4; clear o4
      have H_f4 := Lib.hid f4; clear f4
      have H_c4 := Lib.hid c4; clear c4
      have H_hsep := Lib.hid hsep; clear hsep
      have H_hG4 := Lib.hid hG4; clear hG4
      have H_f24 := Lib.hid f24; clear f24
      go_wp2_with (fail)
      refine (Int_Mul g g h v v v4 (10 ^ m) (10 ^ m) x _ H_hG4.out H_hm120.out (wpow_big (by have := H_hxl.out; omega)) hne H_c4.out H_c4.out H_b4.out (.inl rfl) H_hsep.out).mono ?_
      intro e w5 hr
      obtain ⟨rfl, hb5⟩ := hr.bset
      clear hr
      rw [H_hmul.out] at hb5
      obtain ⟨v5, b5, o5, f5⟩ := hb5.fresh_of H_f24.out (by have := H_hg.out; omega) hov.out
      clear hb5
      have H_b5 := Lib.hid b5; clear b5
      have H_o5 := Lib.hid o5; clear o5
      have H_f5 := Lib.hid f5; clear f5
      go_wp2_with (fail)
      go_roundw
      case rel => exact ⟨q, m + 19, v5, by simp, by have := H_hq.out; omega, H_b5, H_o5, H_f5⟩
      case measure => simp [intOf]; have := H_hq.out; omega
    · rw [if_neg hk] at hcl hxl hmul hc2
      obtain ⟨x, hx⟩ : ∃ x, x = 10 ^ k := ⟨_, rfl⟩
      have t3 : decide ((19 : Int) < (k : Int)) = false := by simp; omega
      rw [hmk] at hmul
      rw [← hx] at hcl hxl hmul hc2
      clear hcl
      have H_by_ := Lib.hid by_; clear by_
      have H_hxl := Lib.hid hxl; clear hxl
      have H_hmul := Lib.hid hmul; clear hmul
      have H_hx := Lib.hid hx; clear hx
      have H_hm120 := Lib.hid hm120; clear hm120
      go_wp2_with (fail)
      generalize hw3 : wr.alloc _ = w3
      rw [← hh]
      obtain ⟨b3, hf3⟩ := H_by_.out w3 hw3
      have hb0 := IntIs.new b3 (by have := H_hGs.out; have := hf2.out.size; omega)
      have H_b3 := Lib.hid b3; clear b3
      have H_hw3 := Lib.hid hw3; clear hw3
      have H_hh := Lib.hid hh; clear hh
      have H_hf3 := Lib.hid hf3; clear hf3
      clear hc2
      refine (SetUint64_any h false _ [] x _ H_hxl.out hb0).mono ?_
      clear hb0
      intro e w4 hr
      obtain ⟨rfl, hb4⟩ := hr.bset
      clear hr
      have hne : g ≠ h := by have := hb2.out.lt; have := H_hh.out; omega
      obtain ⟨v4, b4, o4, f4⟩ := hb4.fresh_of H_hf3.out (by have := H_hh.out; omega) (fun k h => by simp [Value.ownBlock] at h)
      have c4 := hb2.out.fresh f4
      have hsep : Sep v v4 := .inr (fun k hk e => by have := hb2.out.own_lt hk; have := o4 k e; omega)
      have hG4 := (H_hG.out.fresh hf2.out).fresh f4
      have f24 := fresh_trans hf2.out f4
      clear hb4
      have H_b4 := Lib.hid b4; clear b4
      have H_o4 := Lib.hid o4; clear o4
      have H_f4 := Lib.hid f4; clear f4
      have H_c4 := Lib.hid c4; clear c4
      have H_hsep := Lib.hid hsep; clear hsep
      have H_hG4 := Lib.hid hG4; clear hG4
      have H_f24 := Lib.hid f24; clear f24
      go_wp2_with (fail)
      refine (Int_Mul g g h v v v4 (10 ^ m) (10 ^ m) x _ H_hG4.out H_hm120.out (wpow_big (by have := H_hxl.out; omega)) hne H_c4.out H_c4.out H_b4.out (.inl rfl) H_hsep.out).mono ?_
      intro e w5 hr
      obtain ⟨rfl, hb5⟩ := hr.bset
      clear hr
      rw [H_hmul.out] at hb5
      obtain ⟨v5, b5, o5, f5⟩ := hb5.fresh_of H_f24.out (by have := H_hg.out; omega) hov.out
      clear hb5
      have H_b5 := Lib.hid b5; clear b5
      have H_o5 := Lib.hid o5; clear o5
      have H_f5 := Lib.hid f5; clear f5
      go_wp2_with (fail)
      go_ret
      exact ⟨g, v5, rfl, H_b5.out, by have := H_hg.out; omega, H_o5.out, H_f5.out⟩

end Go.Proofs.YtmgidnjpkbgmgabGreatDoor
