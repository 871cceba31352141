/- bint: inc, subAbs, hasPrec, rshHalfEven. -/
import Derived.Test.YtjjolcjeiogdmabGreatDoorK9
import Derived.Test.YtjjolcjeiogdmabGreatDoorK25
namespace Go.Proofs.YtjjolcjeiogdmabGreatDoor
open Go.RowKit

theorem BSet.of_fresh {w w1 w' : World} {g n : Nat} {v : Value} (hf : Fresh w w1) (h : BSet w1 g v n w') : BSet w g v n w' := by
  obtain ⟨u, h1, h2, h3⟩ := h
  refine ⟨u, h1, hf.trans h2 (fun _ _ h => h.elim) (fun _ _ h => h), fun k hk => ?_⟩
  rcases h3 k hk with h | h
  · exact .inl h
  · exact .inr (Nat.le_trans hf.size h)

/-- set twice -/
theorem BSet.trans {w w1 w' : World} {g a n : Nat} {v u : Value} (_hb : BI w1 g u a) (hk : Keep (fun k => k = g ∨ v.ownBlock = some k) w w1) (ho : ∀ k, u.ownBlock = some k → v.ownBlock = some k ∨ w.heap.size ≤ k) (h : BSet w1 g u n w') : BSet w g v n w' := by
  obtain ⟨x, h1, h2, h3⟩ := h
  refine ⟨x, h1, hk.trans h2 (fun _ _ h => h) (fun k hlt h => ?_), fun k hk' => ?_⟩
  · rcases h with h | h
    · exact .inl h
    · rcases ho k h with h' | h'
      · exact .inr h'
      · omega
  · rcases h3 k hk' with h | h
    · exact ho k h
    · exact .inr (Nat.le_trans hk.size h)

theorem inc_self (g n : Nat) (v : Value) (w : World) (hG : Glob w) (hP : Pow10s w) (hn : n < wpow 39) (hz : BI w g v n) :
    Calls Tryz.prog 89 #[.pointer (some ⟨g, 0, none⟩), .pointer (some ⟨g, 0, none⟩)] w (fun e w' => e = .returned (.tuple #[]) ∧ BSet w g v (n + 1) w') := by
  have hb := bpow10_any 0 w hG hP (by omega)
  clear hG hP
  have H_hz := Lib.hid hz; clear hz
  have H_hb := Lib.hid hb; clear hb
  have H_hn := Lib.hid hn; clear hn
  go_enter Tryz.func89, Tryz.ntmps89
  go_wp2_with (fail)
  refine H_hb.out.mono ?_
  rintro e w1 ⟨h, u, rfl, b1, l1, o1, f1⟩
  have hadd := badd_any g g h v v u n n (10 ^ 0) w1 H_hn.out (by unfold wpow; decide) (H_hz.out.fresh f1) (H_hz.out.fresh f1) b1 (.inl rfl) (.inr (fun k hk e => by have := H_hz.out.own_lt hk; have := o1 k e; omega))
  have H_b1 := Lib.hid b1; clear b1
  have H_l1 := Lib.hid l1; clear l1
  have H_o1 := Lib.hid o1; clear o1
  have H_f1 := Lib.hid f1; clear f1
  have H_hadd := Lib.hid hadd; clear hadd
  go_wp2_with (fail)
  refine H_hadd.out.mono ?_
  rintro e w2 ⟨rfl, hs⟩
  have H_hs := Lib.hid hs; clear hs
  go_wp2
  go_end0
  exact ⟨rfl, BSet.of_fresh H_f1.out (by simpa using H_hs.out)⟩

/-- has the number 20 digits or more? -/
theorem hasPrec20 (g n : Nat) (v : Value) (w : World) (hG : Glob w) (hP : Pow10s w) (hn : n < wpow 39) (hz : BI w g v n) :
    Calls Tryz.prog 76 #[.pointer (some ⟨g, 0, none⟩), .int .i64 20] w (fun e w' => e = .returned (.bool (decide (10000000000000000000 ≤ n))) ∧ Fresh w w') := by
  have hb := bpow10_any 19 w hG hP (by omega)
  clear hG hP
  have hc : decide (0 ≤ cmpN n (10 ^ 19)) = decide (10000000000000000000 ≤ n) := by
    rw [show (10 : Nat) ^ 19 = 10000000000000000000 from rfl]
    unfold cmpN
    by_cases h : n < 10000000000000000000
    · rw [if_pos h, decide_eq_false (show ¬ 10000000000000000000 ≤ n by omega)]; rfl
    · rw [if_neg h, decide_eq_true (show 10000000000000000000 ≤ n by omega)]
      split <;> rfl
  have h10 : 10 ^ 19 < wpow 39 := wpow_big (by decide)
  generalize (10 : Nat) ^ 19 = y at *
  generalize decide (10000000000000000000 ≤ n) = r at *
  have H_hz := Lib.hid hz; clear hz
  have H_hb := Lib.hid hb; clear hb
  have H_hn := Lib.hid hn; clear hn
  have H_h10 := Lib.hid h10; clear h10
  obtain ⟨c, hcc⟩ : ∃ c, c = cmpN n y := ⟨_, rfl⟩
  rw [← hcc] at hc
  have H_hcc := Lib.hid hcc; clear hcc
  go_enter Tryz.func76, Tryz.ntmps76
  go_wp2_with (fail)
  refine H_hb.out.mono ?_
  rintro e w1 ⟨h, u, rfl, b1, l1, o1, f1⟩
  have hcmp := bcmp_any g h v u n y w1 H_hn.out H_h10.out (by have := H_hz.out.lt; omega) (H_hz.out.fresh f1) b1
  rw [← H_hcc.out] at hcmp
  have H_b1 := Lib.hid b1; clear b1
  have H_l1 := Lib.hid l1; clear l1
  have H_o1 := Lib.hid o1; clear o1
  have H_f1 := Lib.hid f1; clear f1
  have H_hcmp := Lib.hid hcmp; clear hcmp
  go_wp2_with (fail)
  refine H_hcmp.out.mono ?_
  rintro e w2 ⟨rfl, q, rfl⟩
  go_wp2
  go_ret
  exact ⟨rfl, H_f1.out.trans (fresh_drewN _ _) (fun _ _ h => h) (fun _ _ h => h)⟩

theorem cmpN_three (a b : Nat) : (cmpN a b = -1 ∧ a < b) ∨ (cmpN a b = 0 ∧ a = b) ∨ (cmpN a b = 1 ∧ b < a) := by
  unfold cmpN
  rcases Nat.lt_trichotomy a b with h | h | h
  · left; rw [if_pos h]; exact ⟨rfl, h⟩
  · right; left; subst h; rw [if_neg (by omega), if_neg (by omega)]; exact ⟨rfl, rfl⟩
  · right; right; rw [if_neg (by omega), if_pos h]; exact ⟨rfl, h⟩

set_option maxRecDepth 20000 in
theorem brsh_zero (g s : Nat) (v : Value) (w : World) (hz : BI w g v 0) :
    Calls Tryz.prog 75 #[.pointer (some ⟨g, 0, none⟩), .pointer (some ⟨g, 0, none⟩), .int .i64 s] w (fun e w' => e = .returned (.tuple #[]) ∧ BSet w g v 0 w') := by
  have hsg := bsign_any g 0 v w hz
  rw [if_pos rfl] at hsg
  have hset := setFint_any g v 0 0 w (by omega) hz
  have H_hz := Lib.hid hz; clear hz
  have H_hsg := Lib.hid hsg; clear hsg
  have H_hset := Lib.hid hset; clear hset
  go_enter_defers Tryz.func75, Tryz.ntmps75
  go_wp2_with (fail)
  refine H_hsg.out.mono ?_
  rintro e w1 ⟨rfl, rfl⟩
  go_wp2_with (fail)
  refine H_hset.out.mono ?_
  rintro e w2 ⟨rfl, hb⟩
  have H_hb := Lib.hid hb; clear hb
  go_wp2_with (fail)
  refine ⟨.tuple #[], ?_, ?_⟩
  · simp [results, Tryz.results75]
  · exact ⟨rfl, H_hb.out⟩

/-- the whole number n lies in block g; it and its words were made since w0 -/
def OB (w0 w : World) (g n : Nat) : Prop := ∃ v, BI w g v n ∧ w0.heap.size ≤ g ∧ (∀ k, v.ownBlock = some k → w0.heap.size ≤ k) ∧ Fresh w0 w

theorem OB.set {w0 w w' : World} {g n m : Nat} {v : Value} (hg : w0.heap.size ≤ g) (hv : ∀ k, v.ownBlock = some k → w0.heap.size ≤ k) (hf : Fresh w0 w) (_ : BI w g v n) (h : BSet w g v m w') : OB w0 w' g m := by
  obtain ⟨u, h1, h2, h3⟩ := h.fresh_of hf hg hv
  exact ⟨u, h1, hg, h2, h3⟩

theorem OB.fresh {w0 w w' : World} {g n : Nat} (h : OB w0 w g n) (hf : Fresh w w') : OB w0 w' g n := by
  obtain ⟨v, h1, h2, h3, h4⟩ := h
  exact ⟨v, h1.fresh hf, h2, h3, h4.trans hf (fun _ _ h => h) (fun _ _ h => h)⟩

end Go.Proofs.YtjjolcjeiogdmabGreatDoor

/- The number of digits of a bint. -/
namespace Go.Proofs.YtjjolcjeiogdmabGreatDoor
open Go.RowKit

theorem cmpN_ways (a b : Nat) : (cmpN a b = 1 ∧ b < a) ∨ (cmpN a b = -1 ∧ a < b) ∨ (cmpN a b = 0 ∧ a = b) := by
  rcases Nat.lt_trichotomy a b with h | h | h
  · exact .inr (.inl ⟨cmpN_lt h, h⟩)
  · subst h; exact .inr (.inr ⟨cmpN_eq a, rfl⟩)
  · exact .inl ⟨cmpN_gt h, h⟩

set_option maxRecDepth 20000 in
set_option maxHeartbeats 4000000 in
theorem bprec_any (g c p : Nat) (v : Value) (w : World) (hG : Glob w) (hP : Pow10s w) (hp : IsPrec c p) (hc : c < 10 ^ 99) (hb : BI w g v c) :
    Calls Tryz.prog 73 #[.pointer (some ⟨g, 0, none⟩)] w (VRet w (.int .i64 p)) := by
  have hp99 : p ≤ 99 := hp.lt_iff.1 hc
  have hcw : c < wpow 39 := Nat.lt_trans hc (wpow_ten (by omega))
  have hlt99 : cmpN c (10 ^ 99) = -1 := cmpN_lt hc
  have H_hG := Lib.hid hG; clear hG
  have H_hP := Lib.hid hP; clear hP
  have H_hp := Lib.hid hp; clear hp
  have H_hb := Lib.hid hb; clear hb
  have H_hcw := Lib.hid hcw; clear hcw
  have H_hlt99 := Lib.hid hlt99; clear hlt99
  have H_hc := Lib.hid hc; clear hc
  go_enter Tryz.func73, Tryz.ntmps73
  go_wp2_with (fail)
  refine (bpow10_all 99 w H_hG.out H_hP.out (by omega)).mono ?_
  rintro e w2 ⟨h, u, rfl, hb2, hh, _, f2⟩
  have hne : g ≠ h := by have := H_hb.out.lt; omega
  have hc1 := bcmp_any g h v u c (10 ^ 99) w2 H_hcw.out (wpow_ten (by omega)) hne (H_hb.out.fresh f2) hb2
  rw [H_hlt99.out] at hc1
  have H_f2 := Lib.hid f2; clear f2
  have H_hc1 := Lib.hid hc1; clear hc1
  have H_hb2 := Lib.hid hb2; clear hb2
  have H_hh := Lib.hid hh; clear hh
  have H_hne := Lib.hid hne; clear hne
  go_wp2_with (fail)
  refine H_hc1.out.mono ?_
  rintro e w3 ⟨rfl, n3, rfl⟩
  have f3 : Fresh w (w2.drewN n3) := H_f2.out.drewN n3
  generalize w2.drewN n3 = w3 at *
  have H_f3 := Lib.hid f3; clear f3
  go_wp2_with (fail)
  go_loopw [3, 4] (fun l r wr => ∃ a b : Nat, a ≤ p ∧ p ≤ b ∧ b ≤ 100 ∧ l = .int .i64 a ∧ r = .int .i64 b ∧ Hid (Fresh w wr)) (fun l r _ => (intOf r).toNat - (intOf l).toNat)
  case atStart => exact ⟨0, 100, by omega, by omega, by omega, rfl, rfl, H_f3⟩
  case round =>
    obtain ⟨a, b, ha, hb, hb2, rfl, rfl, hf⟩ := hrel
    by_cases hlt : a < b
    · have t1 : decide ((a : Int) < (b : Int)) = true := by simp; omega
      have hq := half_sum a b
      obtain ⟨m, hm⟩ : ∃ m, m = (a + b) / 2 := ⟨_, rfl⟩
      rw [← hm] at hq
      have hm1 : a ≤ m := by omega
      have hm2 : m < b := by omega
      have hiff := H_hp.out.lt_iff (m := m)
      have hbp := bpow10_all m wr (H_hG.out.fresh hf.out) (H_hP.out.fresh hf.out) (by omega)
      clear hm
      have H_hbp := Lib.hid hbp; clear hbp
      have H_hiff := Lib.hid hiff; clear hiff
      go_wp2_with (fail)
      refine H_hbp.out.mono ?_
      rintro e w5 ⟨h, u, rfl, hb5, hh, _, f5⟩
      have hne : g ≠ h := by have := H_hb.out.lt; have := hf.out.size; omega
      have hc1 := bcmp_any g h v u c (10 ^ m) w5 H_hcw.out (wpow_ten (by omega)) hne ((H_hb.out.fresh hf.out).fresh f5) hb5
      have f5' := fresh_trans hf.out f5
      by_cases hle : p ≤ m
      · rw [cmpN_lt (H_hiff.out.2 hle)] at hc1
        have H_hc1 := Lib.hid hc1; clear hc1
        have H_f5 := Lib.hid f5; clear f5
        have H_f5' := Lib.hid f5'; clear f5'
        have H_hb5 := Lib.hid hb5; clear hb5
        have H_hh := Lib.hid hh; clear hh
        have H_hne := Lib.hid hne; clear hne
        go_wp2_with (fail)
        refine H_hc1.out.mono ?_
        rintro e w6 ⟨rfl, n6, rfl⟩
        have f6 : Fresh w (w5.drewN n6) := H_f5'.out.drewN n6
        generalize w5.drewN n6 = w6 at *
        have H_f6 := Lib.hid f6; clear f6
        go_wp2_with (fail)
        go_roundw
        case rel => exact ⟨a, m, ha, hle, by omega, rfl, rfl, H_f6⟩
        case measure => simp [intOf]; omega
      · have hge : 10 ^ m ≤ c := Nat.le_of_not_lt (fun h => hle (H_hiff.out.1 h))
        have hz : cmpN c (10 ^ m) = 0 ∨ cmpN c (10 ^ m) = 1 := by
          rcases cmpN_ways c (10 ^ m) with ⟨h, _⟩ | ⟨_, h⟩ | ⟨h, _⟩
          · exact .inr h
          · omega
          · exact .inl h
        generalize cmpN c (10 ^ m) = z at *
        have hz0 : ¬ z < 0 := by omega
        have t2 : decide (z < 0) = false := by simp; omega
        clear hz hge
        have H_hc1 := Lib.hid hc1; clear hc1
        have H_f5 := Lib.hid f5; clear f5
        have H_f5' := Lib.hid f5'; clear f5'
        have H_hb5 := Lib.hid hb5; clear hb5
        have H_hh := Lib.hid hh; clear hh
        have H_hne := Lib.hid hne; clear hne
        go_wp2_with (fail)
        refine H_hc1.out.mono ?_
        rintro e w6 ⟨rfl, n6, rfl⟩
        have f6 : Fresh w (w5.drewN n6) := H_f5'.out.drewN n6
        generalize w5.drewN n6 = w6 at *
        have H_f6 := Lib.hid f6; clear f6
        go_wp2_with (fail)
        go_roundw
        case rel => exact ⟨m + 1, b, by omega, hb, hb2, by simp, rfl, H_f6⟩
        case measure => simp [intOf]; omega
    · obtain rfl : a = b := by omega
      obtain rfl : a = p := by omega
      have t1 : decide ((a : Int) < (a : Int)) = false := by simp
      go_wp2_with (fail)
      go_ret
      exact ⟨rfl, hf.out⟩

end Go.Proofs.YtjjolcjeiogdmabGreatDoor
