/- The contracts of the reference's Room and Fixed: the greatest number of places for which there is room. -/
import Derived.WalkSmall
import Derived.Test.YtjjolcjeiogdmabGreatDoorK3
import Derived.Test.YtjjolcjeiogdmabGreatDoorK6
import Derived.Test.YtjjolcjeiogdmabGreatDoorK7
import Derived.Test.YtjjolcjeiogdmabGreatDoorK8
import Derived.Test.YtjjolcjeiogdmabGreatDoorK9
namespace Go.Proofs.YtjjolcjeiogdmabGreatDoor
open Go.RowKit

/-- what Room tells -/
def RoomIs (N d : Nat) (r : Int) : Prop := (∃ t : Nat, r = (t : Int) ∧ Top N d t) ∨ (r = -1 ∧ ¬ okN N d 0)

theorem room_at {N d j : Nat} {r : Int} (hd : 0 < d) (hr : RoomIs N d r) (hok : okN N d j) (hj : j ≤ 19) (hn : ∀ i : Nat, j < i → i ≤ 19 → ¬ okN N d i) : Top N d j ∧ r = (j : Int) := by
  have ht : Top N d j := by
    refine ⟨hj, hok, ?_⟩
    rcases Nat.lt_or_ge j 19 with h | h
    · exact .inr (hn (j + 1) (by omega) (by omega))
    · exact .inl (by omega)
  rcases hr with ⟨t, rfl, h⟩ | ⟨_, h⟩
  · exact ⟨ht, by rw [top_unique hd ht h]⟩
  · exact absurd (okN_anti hd (Nat.zero_le j) hok) h

theorem sgn_sint {neg : Bool} {l : List Nat} {z : Int} {n : Nat} (h : sint neg l = sgnN z n) : sval l = n := by
  have h1 := sint_natAbs neg l
  rw [h, sgnN_abs] at h1
  exact h1.symm

theorem prec_spow {n c : Nat} (h : c < spow n) : ∃ p, p ≤ 9 * n ∧ IsPrec c p := by
  rw [spow_ten] at h
  exact isPrec_ex _ _ h

theorem rhe_spow {N d p : Nat} (h : N < spow 300) (hp : p ≤ 19) : rhe (N * 10 ^ p) d < spow 400 := by
  refine Nat.lt_of_le_of_lt (rhe_le _ _) ?_
  have h1 : N * 10 ^ p / d ≤ N * 10 ^ p := Nat.div_le_self _ _
  have h2 : 10 ^ p < spow 99 := pow_spow (by omega)
  have h3 := Nat.mul_lt_mul'' h h2
  rw [← spow_add, show 300 + 99 = 399 from rfl] at h3
  have h4 : spow 399 < spow 400 := spow_lt (by omega)
  omega

/-- Fixed returns the number rounded to as many places as there is room for -/
def FixedRet (w : World) (N d : Nat) (z : Int) (t : Nat) (e : Ending) (w' : World) : Prop := ∃ x, e = .returned (.tuple #[x, .bool true]) ∧ RdIs w' x (sgnN z (rhe (N * 10 ^ t) d)) t ∧ Fresh w w'

/-- or tells that there is none -/
def FixedNone (w : World) (e : Ending) (w' : World) : Prop := e = .returned (.tuple #[.agg #[.bool false, .slice none 0 0, .int .i64 0], .bool false]) ∧ Fresh w w'

set_option maxRecDepth 20000 in
set_option maxHeartbeats 4000000 in
theorem Fixed_some (xw : Value) (z : Int) (d : Nat) (t : Nat) (ht : Top z.natAbs d t) (w : World) (hx : SFr w xw z d) (hd : 0 < d) (hz : z.natAbs < spow 300) (hdd : d < spow 300) :
    Calls Tryz.prog 13 #[xw, .int .i64 19] w (FixedRet w z.natAbs d z t) := by
  obtain ⟨na, va, la, dv, dl, rfl, ha, hna, hca, rfl, hda, hdna, rfl⟩ := hx
  have hx : SFr w (.agg #[.bool na, va, dv]) (sint na la) (sval dl) := ⟨na, va, la, dv, dl, rfl, ha, hna, hca, rfl, hda, hdna, rfl⟩
  obtain ⟨aa, ca, rfl⟩ := ha.form
  obtain ⟨ad, cd, rfl⟩ := hda.form
  clear ha hna hca hda hdna
  obtain ⟨g, hg⟩ : ∃ g, g = w.heap.size := ⟨_, rfl⟩
  obtain ⟨N, hN⟩ : ∃ N, N = (sint na la).natAbs := ⟨_, rfl⟩
  obtain ⟨z, hz0⟩ : ∃ z, z = sint na la := ⟨_, rfl⟩
  obtain ⟨d, hd0⟩ : ∃ d, d = sval dl := ⟨_, rfl⟩
  rw [← hz0] at hx hz ht hN ⊢
  rw [← hd0] at hx hd hdd ht ⊢
  rw [← hN] at hz ht ⊢
  have hround := fun W (p : Nat) (hW : Fresh w W) (hp : p ≤ 19) => RoundHE_any _ z d p W (hx.fresh hW) hd (by rw [← hN]; exact hz) hdd (by omega)
  rw [← hN] at hround
  have bx := boxes2 w #[.bool na, .slice aa la.length ca, .slice ad dl.length cd] #[.bool false, .slice none 0 0, .int .i64 0] 34 49 g hg
  have H_bx := Lib.hid bx; clear bx
  have H_hz := Lib.hid hz; clear hz
  have H_hdd := Lib.hid hdd; clear hdd
  have H_hd := Lib.hid hd; clear hd
  have H_ht := Lib.hid ht; clear ht
  have H_hround := Lib.hid hround; clear hround
  have H_hx := Lib.hid hx; clear hx
  have H_hN := Lib.hid hN; clear hN
  have H_hz0 := Lib.hid hz0; clear hz0
  have H_hd0 := Lib.hid hd0; clear hd0
  go_enter Tryz.func13, Tryz.ntmps13
  go_wp2_with (fail)
  generalize hw1 : (w.alloc _).alloc _ = w1
  rw [← hg]
  obtain ⟨b1, b2, hf⟩ := H_bx.out w1 hw1
  have H_b1 := Lib.hid b1; clear b1
  have H_b2 := Lib.hid b2; clear b2
  have H_hf := Lib.hid hf; clear hf
  have H_hw1 := Lib.hid hw1; clear hw1
  have H_hg := Lib.hid hg; clear hg
  go_wp2_with (fail)
  go_loopw [6] (fun i wr => ∃ k : Int, -1 ≤ k ∧ k ≤ 19 ∧ i = .int .i64 k ∧ Hid (∀ i : Nat, k < (i : Int) → i ≤ 19 → ¬ okN N d i) ∧ Hid (Fresh w1 wr)) (fun i _ => (intOf i + 1).toNat)
  case atStart => exact ⟨19, by omega, by omega, rfl, Lib.hid (fun i h1 h2 => by omega), Keep.refl _ _⟩
  case round =>
    obtain ⟨k, hk1, hk2, rfl, hno, hfr⟩ := hrel
    by_cases hk : 0 ≤ k
    · obtain ⟨j, rfl⟩ := Int.eq_ofNat_of_zero_le hk
      have hj : j ≤ 19 := by omega
      have t1 : decide (0 ≤ (j : Int)) = true := by simp
      have b1 := row_fresh H_b1.out hfr.out
      have k0 := row_cell b1 0
      have k1 := row_cell b1 1
      have k2 := row_cell b1 2
      simp at k0 k1 k2
      have hrd := H_hround.out wr j (fresh_trans H_hf.out hfr.out) hj
      clear b1
      have H_hrd := Lib.hid hrd; clear hrd
      go_wp2_with (fail)
      refine H_hrd.out.mono ?_
      rintro e w3 ⟨x, rfl, ⟨nb, v, l, rfl, s1, s2, s3, s4⟩, f3⟩
      obtain ⟨al, cl, rfl⟩ := s1.form
      have hsv := sgn_sint s4
      have hlen : l.length ≤ 400 := s2.s_len_le (by rw [hsv]; exact rhe_spow H_hz.out hj)
      obtain ⟨p, hp1, hp2⟩ := prec_spow (n := 400) (c := sval l) (by rw [hsv]; exact rhe_spow H_hz.out hj)
      have f3 := fresh_trans hfr.out f3
      obtain ⟨h, hh⟩ : ∃ h, h = w3.heap.size := ⟨_, rfl⟩
      clear k0 k1 k2
      have H_hh := Lib.hid hh; clear hh
      have H_f3 := Lib.hid f3; clear f3
      go_wp2_with (fail)
      generalize hw4 : w3.alloc _ = w4
      have f4 : Fresh w3 w4 := by rw [← hw4]; exact (Keep.refl _ _).alloc _
      have r4 : w4.heap[h]? = some (.cells #[.bool nb, .slice al l.length cl, .int .i64 (-(j : Int))] 49 (0, 0)) := by rw [← hw4, H_hh.out]; exact heap_alloc_new w3 _
      rw [← H_hh.out]
      have hdig := Digits_any _ l p w4 (s1.fresh f4) s2 (by omega) hp2 (by omega)
      have hiff : okN N d j ↔ p ≤ 19 := by
        rw [← hp2.lt_iff, hsv]
        exact Iff.rfl
      have s1 := s1.fresh f4
      have f4 := fresh_trans H_f3.out f4
      clear hlen hp1 hp2 hsv H_f3
      have H_hdig := Lib.hid hdig; clear hdig
      have H_hiff := Lib.hid hiff; clear hiff
      have H_f4 := Lib.hid f4; clear f4
      have H_s1 := Lib.hid s1; clear s1
      have H_s2 := Lib.hid s2; clear s2
      have H_s3 := Lib.hid s3; clear s3
      have H_s4 := Lib.hid s4; clear s4
      have H_r4 := Lib.hid r4; clear r4
      have H_hw4 := Lib.hid hw4; clear hw4
      refine H_hdig.out.mono ?_
      rintro e w5 ⟨rfl, f5⟩
      have s1 := H_s1.out.fresh f5
      have r4 := row_fresh H_r4.out f5
      have f5 := fresh_trans H_f4.out f5
      have b2 := row_fresh H_b2.out f5
      clear H_s1 H_r4 H_f4
      by_cases hok : okN N d j
      · have hp19 : p ≤ 19 := H_hiff.out.1 hok
        have t2 : decide ((p : Int) ≤ 19) = true := by simp; omega
        obtain ⟨hjt, _⟩ := room_at H_hd.out (.inl ⟨t, rfl, H_ht.out⟩) hok hj (fun i h1 h2 => hno.out i (by omega) h2)
        obtain rfl := top_unique H_hd.out hjt H_ht.out
        have m0 := row_cell r4 0
        have m1 := row_cell r4 1
        have m2 := row_cell r4 2
        have p0 := row_cell b2 0
        have p1 := row_cell b2 1
        have p2 := row_cell b2 2
        simp at m0 m1 m2 p0 p1 p2
        have z0 : w5.frozen? ⟨g + 1, 0, none⟩ = false := frozen_of_row _ _ _ _ _ b2
        have z1 : w5.frozen? ⟨g + 1, 1, none⟩ = false := frozen_of_row _ _ _ _ _ b2
        have z2 : w5.frozen? ⟨g + 1, 2, none⟩ = false := frozen_of_row _ _ _ _ _ b2
        clear hok hjt
        have H_s1 := Lib.hid s1; clear s1
        have H_r4 := Lib.hid r4; clear r4
        have H_f5 := Lib.hid f5; clear f5
        have H_b2 := Lib.hid b2; clear b2
        go_wp2_with (fail)
        refine bodyPost_ret (results_cell_tmp_row rfl _ _ (g + 1) 49 #[.bool nb, .slice al l.length cl, .int .i64 (-(j : Int))] (0, 0) _ rfl (row_set (row_set (row_set H_b2.out))) Tryz.underlying49 rfl (by kernel_rfl)) rfl ?_
        have g1 := H_s1.out.off p0 (fun n e => by simp at e)
        exact ⟨_, rfl, ⟨nb, _, l, rfl, ((H_s1.out.setOff g1).setOff g1).setOff g1, H_s2.out, H_s3.out, H_s4.out⟩, (fresh_trans H_hf.out H_f5.out).set3 (by have := H_hg.out; omega)⟩
      · have hp19 : ¬ p ≤ 19 := fun h => hok (H_hiff.out.2 h)
        have t2 : decide ((p : Int) ≤ 19) = false := by simp; omega
        have hno2 : ∀ i : Nat, (j : Int) - 1 < (i : Int) → i ≤ 19 → ¬ okN N d i := fun i h1 h2 => by
          rcases Nat.lt_or_ge j i with h | h
          · exact hno.out i (by omega) h2
          · have : i = j := by omega
            rw [this]; exact hok
        clear hok
        have H_hno2 := Lib.hid hno2; clear hno2
        have H_f5 := Lib.hid f5; clear f5
        have H_s1 := Lib.hid s1; clear s1
        have H_r4 := Lib.hid r4; clear r4
        have H_b2 := Lib.hid b2; clear b2
        go_wp2_with (fail)
        go_roundw
        case rel => exact ⟨(j : Int) - 1, by omega, by omega, by simp, H_hno2, H_f5⟩
        case measure => simp [intOf] <;> omega
    · have t1 : decide (0 ≤ k) = false := by simp; omega
      exact absurd H_ht.out.2.1 (hno.out t (by omega) H_ht.out.1)

set_option maxRecDepth 20000 in
set_option maxHeartbeats 4000000 in
theorem Fixed_none (xw : Value) (z : Int) (d : Nat) (ht : ¬ okN z.natAbs d 0) (w : World) (hx : SFr w xw z d) (hd : 0 < d) (hz : z.natAbs < spow 300) (hdd : d < spow 300) :
    Calls Tryz.prog 13 #[xw, .int .i64 19] w (FixedNone w) := by
  obtain ⟨na, va, la, dv, dl, rfl, ha, hna, hca, rfl, hda, hdna, rfl⟩ := hx
  have hx : SFr w (.agg #[.bool na, va, dv]) (sint na la) (sval dl) := ⟨na, va, la, dv, dl, rfl, ha, hna, hca, rfl, hda, hdna, rfl⟩
  obtain ⟨aa, ca, rfl⟩ := ha.form
  obtain ⟨ad, cd, rfl⟩ := hda.form
  clear ha hna hca hda hdna
  obtain ⟨g, hg⟩ : ∃ g, g = w.heap.size := ⟨_, rfl⟩
  obtain ⟨N, hN⟩ : ∃ N, N = (sint na la).natAbs := ⟨_, rfl⟩
  obtain ⟨z, hz0⟩ : ∃ z, z = sint na la := ⟨_, rfl⟩
  obtain ⟨d, hd0⟩ : ∃ d, d = sval dl := ⟨_, rfl⟩
  rw [← hz0] at hx hz ht hN
  rw [← hd0] at hx hd hdd ht
  rw [← hN] at hz ht
  have hround := fun W (p : Nat) (hW : Fresh w W) (hp : p ≤ 19) => RoundHE_any _ z d p W (hx.fresh hW) hd (by rw [← hN]; exact hz) hdd (by omega)
  rw [← hN] at hround
  have bx := boxes2 w #[.bool na, .slice aa la.length ca, .slice ad dl.length cd] #[.bool false, .slice none 0 0, .int .i64 0] 34 49 g hg
  have H_bx := Lib.hid bx; clear bx
  have H_hz := Lib.hid hz; clear hz
  have H_hdd := Lib.hid hdd; clear hdd
  have H_hd := Lib.hid hd; clear hd
  have H_ht := Lib.hid ht; clear ht
  have H_hround := Lib.hid hround; clear hround
  have H_hx := Lib.hid hx; clear hx
  have H_hN := Lib.hid hN; clear hN
  have H_hz0 := Lib.hid hz0; clear hz0
  have H_hd0 := Lib.hid hd0; clear hd0
  go_enter Tryz.func13, Tryz.ntmps13
  go_wp2_with (fail)
  generalize hw1 : (w.alloc _).alloc _ = w1
  rw [← hg]
  obtain ⟨b1, b2, hf⟩ := H_bx.out w1 hw1
  have H_b1 := Lib.hid b1; clear b1
  have H_b2 := Lib.hid b2; clear b2
  have H_hf := Lib.hid hf; clear hf
  have H_hw1 := Lib.hid hw1; clear hw1
  have H_hg := Lib.hid hg; clear hg
  go_wp2_with (fail)
  go_loopw [6] (fun i wr => ∃ k : Int, -1 ≤ k ∧ k ≤ 19 ∧ i = .int .i64 k ∧ Hid (∀ i : Nat, k < (i : Int) → i ≤ 19 → ¬ okN N d i) ∧ Hid (Fresh w1 wr)) (fun i _ => (intOf i + 1).toNat)
  case atStart => exact ⟨19, by omega, by omega, rfl, Lib.hid (fun i h1 h2 => by omega), Keep.refl _ _⟩
  case round =>
    obtain ⟨k, hk1, hk2, rfl, hno, hfr⟩ := hrel
    by_cases hk : 0 ≤ k
    · obtain ⟨j, rfl⟩ := Int.eq_ofNat_of_zero_le hk
      have hj : j ≤ 19 := by omega
      have t1 : decide (0 ≤ (j : Int)) = true := by simp
      have b1 := row_fresh H_b1.out hfr.out
      have k0 := row_cell b1 0
      have k1 := row_cell b1 1
      have k2 := row_cell b1 2
      simp at k0 k1 k2
      have hrd := H_hround.out wr j (fresh_trans H_hf.out hfr.out) hj
      clear b1
      have H_hrd := Lib.hid hrd; clear hrd
      go_wp2_with (fail)
      refine H_hrd.out.mono ?_
      rintro e w3 ⟨x, rfl, ⟨nb, v, l, rfl, s1, s2, s3, s4⟩, f3⟩
      obtain ⟨al, cl, rfl⟩ := s1.form
      have hsv := sgn_sint s4
      have hlen : l.length ≤ 400 := s2.s_len_le (by rw [hsv]; exact rhe_spow H_hz.out hj)
      obtain ⟨p, hp1, hp2⟩ := prec_spow (n := 400) (c := sval l) (by rw [hsv]; exact rhe_spow H_hz.out hj)
      have f3 := fresh_trans hfr.out f3
      obtain ⟨h, hh⟩ : ∃ h, h = w3.heap.size := ⟨_, rfl⟩
      clear k0 k1 k2
      have H_hh := Lib.hid hh; clear hh
      have H_f3 := Lib.hid f3; clear f3
      go_wp2_with (fail)
      generalize hw4 : w3.alloc _ = w4
      have f4 : Fresh w3 w4 := by rw [← hw4]; exact (Keep.refl _ _).alloc _
      have r4 : w4.heap[h]? = some (.cells #[.bool nb, .slice al l.length cl, .int .i64 (-(j : Int))] 49 (0, 0)) := by rw [← hw4, H_hh.out]; exact heap_alloc_new w3 _
      rw [← H_hh.out]
      have hdig := Digits_any _ l p w4 (s1.fresh f4) s2 (by omega) hp2 (by omega)
      have hiff : okN N d j ↔ p ≤ 19 := by
        rw [← hp2.lt_iff, hsv]
        exact Iff.rfl
      have s1 := s1.fresh f4
      have f4 := fresh_trans H_f3.out f4
      clear hlen hp1 hp2 hsv H_f3
      have H_hdig := Lib.hid hdig; clear hdig
      have H_hiff := Lib.hid hiff; clear hiff
      have H_f4 := Lib.hid f4; clear f4
      have H_s1 := Lib.hid s1; clear s1
      have H_s2 := Lib.hid s2; clear s2
      have H_s3 := Lib.hid s3; clear s3
      have H_s4 := Lib.hid s4; clear s4
      have H_r4 := Lib.hid r4; clear r4
      have H_hw4 := Lib.hid hw4; clear hw4
      refine H_hdig.out.mono ?_
      rintro e w5 ⟨rfl, f5⟩
      have s1 := H_s1.out.fresh f5
      have r4 := row_fresh H_r4.out f5
      have f5 := fresh_trans H_f4.out f5
      have b2 := row_fresh H_b2.out f5
      clear H_s1 H_r4 H_f4
      by_cases hok : okN N d j
      · exact absurd (okN_anti H_hd.out (Nat.zero_le j) hok) H_ht.out
      · have hp19 : ¬ p ≤ 19 := fun h => hok (H_hiff.out.2 h)
        have t2 : decide ((p : Int) ≤ 19) = false := by simp; omega
        have hno2 : ∀ i : Nat, (j : Int) - 1 < (i : Int) → i ≤ 19 → ¬ okN N d i := fun i h1 h2 => by
          rcases Nat.lt_or_ge j i with h | h
          · exact hno.out i (by omega) h2
          · have : i = j := by omega
            rw [this]; exact hok
        clear hok
        have H_hno2 := Lib.hid hno2; clear hno2
        have H_f5 := Lib.hid f5; clear f5
        have H_s1 := Lib.hid s1; clear s1
        have H_r4 := Lib.hid r4; clear r4
        have H_b2 := Lib.hid b2; clear b2
        go_wp2_with (fail)
        go_roundw
        case rel => exact ⟨(j : Int) - 1, by omega, by omega, by simp, H_hno2, H_f5⟩
        case measure => simp [intOf] <;> omega
    · have t1 : decide (0 ≤ k) = false := by simp; omega
      have b2 := row_fresh H_b2.out hfr.out
      have p0 := row_cell b2 0
      have p1 := row_cell b2 1
      have p2 := row_cell b2 2
      simp at p0 p1 p2
      have z0 : wr.frozen? ⟨g + 1, 0, none⟩ = false := frozen_of_row _ _ _ _ _ b2
      have z1 : wr.frozen? ⟨g + 1, 1, none⟩ = false := frozen_of_row _ _ _ _ _ b2
      have z2 : wr.frozen? ⟨g + 1, 2, none⟩ = false := frozen_of_row _ _ _ _ _ b2
      have H_b2 := Lib.hid b2; clear b2
      go_wp2_with (fail)
      refine bodyPost_ret (results_cell_tmp_row rfl _ _ (g + 1) 49 #[.bool false, .slice none 0 0, .int .i64 0] (0, 0) _ rfl (row_set (row_set (row_set H_b2.out))) Tryz.underlying49 rfl (by kernel_rfl)) rfl ?_
      exact ⟨rfl, (fresh_trans H_hf.out hfr.out).set3 (by have := H_hg.out; omega)⟩

end Go.Proofs.YtjjolcjeiogdmabGreatDoor

/- The contracts of govalues' decimals: Sign, IsOne, WithinOne, Prec. -/
namespace Go.Proofs.YtjjolcjeiogdmabGreatDoor
open Go.RowKit

end Go.Proofs.YtjjolcjeiogdmabGreatDoor

/- How two decimals compare: the plain law. -/
namespace Go.Proofs.YtjjolcjeiogdmabGreatDoor
open Go.RowKit

theorem zfix_mul (n : Bool) (c x : Nat) : zfix n c * (x : Int) = zfix n (c * x) := by
  unfold zfix
  split
  · rw [Int.neg_mul, Int.natCast_mul]
  · rw [Int.natCast_mul]

end Go.Proofs.YtjjolcjeiogdmabGreatDoor

/- Faults: the variable of the fault 'overflow', errors.New; and signs of decimals that are 0. -/
namespace Go.Proofs.YtjjolcjeiogdmabGreatDoor
open Go Go.ChangeShapes Go.WideShapes Go.ChangeAt Go.RowKit Go.Lib Go.Joins

set_option maxRecDepth 100000 in
theorem row_errorString (u : TypeId) (h : Tryz.prog.typeName? 3 u = some "*errors.errorString") : u = 71 := by
  have star : "*" ++ "errors.errorString" = "*errors.errorString" := by decide
  exact typeName_ptr_named (nm := "errors.errorString") (by rw [star]; kernel_rfl) (by kernel_rfl) (by decide) u (by rw [star]; exact h)

/-- the variable of the fault 'overflow' holds an error -/
def ErrIs (w : World) : Prop := ∃ a : Addr, w.cell? ⟨1, 0, none⟩ = some (.iface 71 (.pointer (some a)))

theorem ErrIs.fresh {w w' : World} (h : ErrIs w) (hk : Fresh w w') : ErrIs w' := by
  obtain ⟨a, h⟩ := h
  exact ⟨a, cell_fresh h hk⟩

/-- the call returns a fault -/
def ERet (w : World) (e : Ending) (w' : World) : Prop := ∃ a : Addr, e = .returned (.iface 71 (.pointer (some a))) ∧ Fresh w w'

set_option maxRecDepth 20000 in
theorem errorsNew_any (s : ByteArray) (w : World) : Calls Tryz.prog 21 #[.string s] w (ERet w) := by
  go_enter Tryz.func21, Tryz.ntmps21
  go_wp2
  go_ret
  exact ⟨_, rfl, (Keep.refl _ _).alloc _⟩

/-- what Clamp tells when the bounds stand the wrong way -/
def ClampErr (w : World) (e : Ending) (w' : World) : Prop := ∃ a : Addr, e = .returned (.tuple #[gd false 0 0, .iface 71 (.pointer (some a))]) ∧ Fresh w w'

theorem zfix_canon (n : Bool) (c : Nat) : zfix (n && decide (0 < c)) c = zfix n c := by
  rcases Nat.eq_zero_or_pos c with h | h
  · subst h; cases n <;> rfl
  · have : decide (0 < c) = true := by simp; omega
    rw [this, Bool.and_true]

theorem canon_pos {n : Bool} {c : Nat} (h : (n && decide (0 < c)) = true) : 0 < c := by
  rw [Bool.and_eq_true] at h; simpa using h.2

end Go.Proofs.YtjjolcjeiogdmabGreatDoor

/- govalues' whole numbers of 64 bits: add, subAbs, isOdd, rshHalfEven. -/
namespace Go.Proofs.YtjjolcjeiogdmabGreatDoor
open Go.RowKit

theorem and_odd (x : Nat) (hx : x < 18446744073709551616) : (bits BinOp.and IntKind.u64 (x : Int) 1 != 0) = decide (x % 2 = 1) := by
  rw [and_one_u64 (x : Int) (by omega) (by omega)]
  rcases Nat.mod_two_eq_zero_or_one x with h | h
  · have e : (x : Int) % 2 = 0 := by omega
    rw [e, h]; rfl
  · have e : (x : Int) % 2 = 1 := by omega
    rw [e, h]; rfl

theorem fisOdd_any (x : Nat) (w : World) (hx : x < 18446744073709551616) :
    Calls Tryz.prog 78 #[.int .u64 x] w (fun e w' => e = .returned (.bool (decide (x % 2 = 1))) ∧ w' = w) := by
  have hb := and_odd x hx
  generalize decide (x % 2 = 1) = b at *
  go_enter Tryz.func78, Tryz.ntmps78
  go_wp2
  go_ret
  exact ⟨rfl, rfl⟩

set_option maxHeartbeats 2000000 in
theorem frsh_any (x k : Nat) (w : World) (hP : Pow10s w) (hx : x ≤ 9999999999999999999) (hk : k ≤ 19) :
    Calls Tryz.prog 67 #[.int .u64 x, .int .i64 k] w (fun e w' => e = .returned (.int .u64 (rhe x (10 ^ k))) ∧ w' = w) := by
  by_cases hx0 : x = 0
  · subst hx0
    have hr : rhe 0 (10 ^ k) = 0 := rhe_exact (Nat.pow_pos (by omega)) (by rw [Nat.zero_mul])
    rw [hr]
    clear hr hP
    go_enter Tryz.func67, Tryz.ntmps67
    go_wp2
    go_ret
    exact ⟨rfl, rfl⟩
  by_cases hk0 : k = 0
  · subst hk0
    have hr : rhe x (10 ^ 0) = x := rhe_exact (by decide) (by rw [Nat.pow_zero, Nat.mul_one])
    rw [hr]
    have t0 : ((x : Int) == 0) = false := by rw [beq_eq_false_iff_ne]; omega
    clear hr hP
    go_enter Tryz.func67, Tryz.ntmps67
    go_wp2
    go_ret
    exact ⟨rfl, rfl⟩
  have hcl := hP k (by omega)
  have hyl : 10 ^ k ≤ 10000000000000000000 := by
    have : 10 ^ k ≤ 10 ^ 19 := Nat.pow_le_pow_right (by omega) hk
    omega
  obtain ⟨h, hh⟩ : ∃ h, 10 ^ k = 2 * h := by
    obtain ⟨j, rfl⟩ : ∃ j, k = j + 1 := ⟨k - 1, by omega⟩
    exact ⟨5 * 10 ^ j, by rw [Nat.pow_succ]; omega⟩
  have hy0 : 0 < 10 ^ k := Nat.pow_pos (by omega)
  obtain ⟨y, hy⟩ : ∃ y, y = 10 ^ k := ⟨_, rfl⟩
  rw [← hy] at hcl hyl hh hy0 ⊢
  have t0 : ((x : Int) == 0) = false := by rw [beq_eq_false_iff_ne]; omega
  have t1 : decide ((k : Int) ≤ 0) = false := by simp; omega
  have t2 : decide ((20 : Int) ≤ (k : Int)) = false := by simp; omega
  have hyN : ¬ y = 0 := by omega
  have hdiv : Int.tdiv (x : Int) (y : Int) = ((x / y : Nat) : Int) := by rw [Int.tdiv_eq_ediv_of_nonneg (by omega)]; rfl
  have hdw : IntKind.u64.wrap ((x / y : Nat) : Int) = ((x / y : Nat) : Int) := wrap_u64n _ (by have := Nat.div_le_self x y; omega)
  have hdm := Nat.div_add_mod x y
  have hrhe : rhe x y = x / y + (if y < 2 * (x % y) ∨ (2 * (x % y) = y ∧ x / y % 2 = 1) then 1 else 0) := rfl
  have hqx : x / y ≤ x := Nat.div_le_self x y
  obtain ⟨q, hq⟩ : ∃ q, q = x / y := ⟨_, rfl⟩
  obtain ⟨r, hr⟩ : ∃ r, r = x % y := ⟨_, rfl⟩
  obtain ⟨p, hp⟩ : ∃ p, p = q * y := ⟨_, rfl⟩
  rw [← hq] at hdiv hdw hdm hrhe hqx
  rw [← hr] at hdm hrhe
  have hpx : p + r = x := by rw [hp, Nat.mul_comm]; exact hdm
  have hmulI : IntKind.u64.wrap ((q : Int) * (y : Int)) = (p : Int) := by
    have e : (q : Int) * (y : Int) = ((q * y : Nat) : Int) := by simp
    rw [e, ← hp]
    exact wrap_u64n _ (by omega)
  have hsubI : (x : Int) - (p : Int) = (r : Int) := by omega
  have hhI : (y : Int) / 2 = (h : Int) := by omega
  have hodd := fisOdd_any q w (by omega)
  rw [hrhe]
  clear hdm hrhe hq hr hp hy hP
  rcases Nat.lt_trichotomy h r with hlt | heq | hgt
  · have t3 : decide ((h : Int) < (r : Int)) = true := by simp; omega
    rw [if_pos (by omega)]
    have hres : ((q + 1 : Nat) : Int) = (q : Int) + 1 := by omega
    rw [hres]
    have hq1 : IntKind.u64.wrap ((q : Int) + 1) = (q : Int) + 1 := by have := wrap_u64n (q + 1) (by omega); simpa using this
    clear hodd hh hpx hyl hres hx0
    go_enter Tryz.func67, Tryz.ntmps67
    go_wp2
    go_ret
    exact ⟨rfl, rfl⟩
  · subst heq
    have t3 : decide ((h : Int) < (h : Int)) = false := by simp
    have t4 : ((h : Int) == (h : Int)) = true := by simp
    rcases Nat.mod_two_eq_zero_or_one q with ho | ho
    · rw [if_neg (by omega), Nat.add_zero]
      rw [decide_eq_false (show ¬ q % 2 = 1 by omega)] at hodd
      clear hh hpx hyl hx0 ho
      have H_hodd := Lib.hid hodd; clear hodd
      go_enter Tryz.func67, Tryz.ntmps67
      go_wp2_with (fail)
      refine H_hodd.out.mono ?_
      rintro e w2 ⟨rfl, rfl⟩
      go_wp2
      go_ret
      exact ⟨rfl, rfl⟩
    · rw [if_pos (by omega)]
      rw [decide_eq_true ho] at hodd
      have hres : ((q + 1 : Nat) : Int) = (q : Int) + 1 := by omega
      rw [hres]
      have hq1 : IntKind.u64.wrap ((q : Int) + 1) = (q : Int) + 1 := by have := wrap_u64n (q + 1) (by omega); simpa using this
      clear hh hpx hyl hx0 ho hres
      have H_hodd := Lib.hid hodd; clear hodd
      go_enter Tryz.func67, Tryz.ntmps67
      go_wp2_with (fail)
      refine H_hodd.out.mono ?_
      rintro e w2 ⟨rfl, rfl⟩
      go_wp2
      go_ret
      exact ⟨rfl, rfl⟩
  · have t3 : decide ((h : Int) < (r : Int)) = false := by simp; omega
    have t4 : ((h : Int) == (r : Int)) = false := by rw [beq_eq_false_iff_ne]; omega
    have hne : ¬ h = r := by omega
    have hnlt : ¬ h < r := by omega
    rw [if_neg (by omega), Nat.add_zero]
    clear hodd hh hpx hyl hx0
    go_enter Tryz.func67, Tryz.ntmps67
    go_wp2
    go_ret
    exact ⟨rfl, rfl⟩

end Go.Proofs.YtjjolcjeiogdmabGreatDoor

/- The plain law of sums and products of two decimals: sign, coefficient, scale. -/
namespace Go.Proofs.YtjjolcjeiogdmabGreatDoor
open Go.RowKit

theorem good_zero {d c s : Nat} (hd : 0 < d) (h : Good 0 d c s) : c = 0 := by
  obtain ⟨_, _, h | ⟨_, h⟩⟩ := h
  · rw [Nat.zero_mul] at h
    rcases Nat.mul_eq_zero.1 h with h | h
    · exact h
    · omega
  · rw [h, Nat.zero_mul]
    exact rhe_exact hd (by rw [Nat.zero_mul])

theorem out_sign {z : Int} {neg : Bool} {c : Nat} (h1 : z < 0 → neg = true) (h2 : 0 < z → neg = false) (h3 : z = 0 → c = 0) : zfix (neg && decide (0 < c)) c = sgnN z c := by
  rw [zfix_canon]
  unfold zfix sgnN
  rcases Int.lt_trichotomy z 0 with h | h | h
  · rw [h1 h, if_pos rfl, if_pos h]
  · rw [h3 h]; cases neg <;> simp
  · rw [h2 h, if_neg (by simp), if_neg (by omega)]

theorem mul_sign (m1 m2 : Bool) (c1 c2 : Nat) : (zfix m1 c1 * zfix m2 c2 < 0 → (m1 != m2) = true) ∧ (0 < zfix m1 c1 * zfix m2 c2 → (m1 != m2) = false) := by
  have h : (0 : Int) ≤ (c1 : Int) * (c2 : Int) := Int.mul_nonneg (by omega) (by omega)
  unfold zfix
  cases m1 <;> cases m2 <;> simp only [if_true, Bool.false_eq_true, if_false, Int.neg_mul, Int.mul_neg, Int.neg_neg] <;> constructor <;> intro k <;> first | rfl | (exfalso; omega)

end Go.Proofs.YtjjolcjeiogdmabGreatDoor

/- The contract of the laws' word gvNear. -/
namespace Go.Proofs.YtjjolcjeiogdmabGreatDoor
open Go.RowKit

theorem cmpZ_of_eq {a b : Int} (h : a = b) : cmpZ a b = 0 := by subst h; unfold cmpZ; rw [if_neg (by omega), if_neg (by omega)]

theorem spow_more {m n : Nat} {x : Nat} (h : x < spow m) (hm : m ≤ n) : x < spow n := Nat.lt_of_lt_of_le h (spow_mono hm)

set_option maxRecDepth 20000 in
set_option maxHeartbeats 4000000 in
theorem gvNear_err (neg : Bool) (c : Nat) (s : Int) (xw : Value) (z : Int) (d : Nat) (w : World) (hx : SFr w xw z d) (hd : 0 < d) (hz : z.natAbs < spow 300) (hdd : d < spow 300) (hno : ¬ okN z.natAbs d 0) :
    Calls Tryz.prog 6 #[.agg #[.bool neg, .int .u64 c, .int .i64 s], .int .i64 1, xw] w (VRet w (.bool true)) := by
  obtain ⟨na, va, la, dv, dl, rfl, ha, hna, hca, hzz, hda, hdna, hdd0⟩ := hx
  have hx : SFr w (.agg #[.bool na, va, dv]) z d := ⟨na, va, la, dv, dl, rfl, ha, hna, hca, hzz, hda, hdna, hdd0⟩
  obtain ⟨aa, ca, rfl⟩ := ha.form
  obtain ⟨ad, cd, rfl⟩ := hda.form
  clear ha hna hca hda hdna hzz hdd0
  obtain ⟨g, hg⟩ : ∃ g, g = w.heap.size := ⟨_, rfl⟩
  have hfixed := fun W (hW : Fresh w W) => Fixed_none _ z d hno W (hx.fresh hW) hd hz hdd
  have bx := boxes2 w #[.bool neg, .int .u64 c, .int .i64 s] #[.bool na, .slice aa la.length ca, .slice ad dl.length cd] 24 34 g hg
  clear hno hd hz hdd
  have H_bx := Lib.hid bx; clear bx
  have H_hfixed := Lib.hid hfixed; clear hfixed
  have H_hx := Lib.hid hx; clear hx
  go_enter Tryz.func6, Tryz.ntmps6
  go_wp2_with (fail)
  generalize hw1 : (w.alloc _).alloc _ = w1
  rw [← hg]
  obtain ⟨b1, b2, hf⟩ := H_bx.out w1 hw1
  have k0 := row_cell b2 0
  have k1 := row_cell b2 1
  have k2 := row_cell b2 2
  simp at k0 k1 k2
  have H_b1 := Lib.hid b1; clear b1
  have H_b2 := Lib.hid b2; clear b2
  have H_hf := Lib.hid hf; clear hf
  have H_hw1 := Lib.hid hw1; clear hw1
  have H_hg := Lib.hid hg; clear hg
  go_wp2_with (fail)
  refine (H_hfixed.out _ H_hf.out).mono ?_
  rintro e w2 ⟨rfl, f2⟩
  clear k0 k1 k2
  have H_f2 := Lib.hid f2; clear f2
  go_wp2_with (fail)
  go_ret
  exact ⟨rfl, fresh_trans H_hf.out ((H_f2.out).alloc _)⟩

end Go.Proofs.YtjjolcjeiogdmabGreatDoor

/- The law gvNear, of a result that is the nearest one by its number, at whatever places. -/
namespace Go.Proofs.YtjjolcjeiogdmabGreatDoor
open Go.RowKit

set_option maxRecDepth 20000 in
set_option maxHeartbeats 4000000 in
theorem gvNear_okT (neg : Bool) (c s : Nat) (xw : Value) (z : Int) (d : Nat) (w : World) (hx : SFr w xw z d) (hd : 0 < d) (hz : z.natAbs < spow 300) (hdd : d < spow 300) (hs : s ≤ 19) (hc : c ≤ 9999999999999999999) (t : Nat) (ht : Top z.natAbs d t) (hct : c * 10 ^ t = rhe (z.natAbs * 10 ^ t) d * 10 ^ s) (hcan : neg = true → 0 < c) (hsg : zfix neg c = sgnN z c) :
    Calls Tryz.prog 6 #[fx neg c s, .int .i64 0, xw] w (VRet w (.bool true)) := by
  obtain ⟨na, va, la, dv, dl, rfl, ha, hna, hca, hzz, hda, hdna, hdd0⟩ := hx
  have hx : SFr w (.agg #[.bool na, va, dv]) z d := ⟨na, va, la, dv, dl, rfl, ha, hna, hca, hzz, hda, hdna, hdd0⟩
  obtain ⟨aa, ca, rfl⟩ := ha.form
  obtain ⟨ad, cd, rfl⟩ := hda.form
  clear ha hna hca hda hdna hzz hdd0
  obtain ⟨g, hg⟩ : ∃ g, g = w.heap.size := ⟨_, rfl⟩
  have hfixed := fun W (hW : Fresh w W) => Fixed_some _ z d t ht W (hx.fresh hW) hd hz hdd
  have ht19 := ht.1
  have hR : rhe (z.natAbs * 10 ^ t) d < spow 400 := rhe_spow hz ht19
  have hq : cmpZ (zfix neg c * ((10 ^ t : Nat) : Int)) (sgnN z (rhe (z.natAbs * 10 ^ t) d) * ((10 ^ s : Nat) : Int)) = 0 := cmpZ_of_eq (by rw [hsg, sgnN_mul, sgnN_mul, hct])
  have bx := boxes2 w #[.bool neg, .int .u64 c, .int .i64 s] #[.bool na, .slice aa la.length ca, .slice ad dl.length cd] 24 34 g hg
  clear ht hct hd hz hdd
  have H_bx := Lib.hid bx; clear bx
  have H_hfixed := Lib.hid hfixed; clear hfixed
  have H_hx := Lib.hid hx; clear hx
  have H_hcan := Lib.hid hcan; clear hcan
  have H_hsg := Lib.hid hsg; clear hsg
  have H_hs := Lib.hid hs; clear hs
  have H_hc := Lib.hid hc; clear hc
  have H_ht19 := Lib.hid ht19; clear ht19
  have H_hR := Lib.hid hR; clear hR
  have H_hq := Lib.hid hq; clear hq
  go_enter Tryz.func6, Tryz.ntmps6
  go_wp2_with (fail)
  generalize hw1 : (w.alloc _).alloc _ = w1
  rw [← hg]
  obtain ⟨b1, b2, hf⟩ := H_bx.out w1 hw1
  have k0 := row_cell b2 0
  have k1 := row_cell b2 1
  have k2 := row_cell b2 2
  simp at k0 k1 k2
  have H_b1 := Lib.hid b1; clear b1
  have H_b2 := Lib.hid b2; clear b2
  have H_hf := Lib.hid hf; clear hf
  have H_hw1 := Lib.hid hw1; clear hw1
  have H_hg := Lib.hid hg; clear hg
  go_wp2_with (fail)
  refine (H_hfixed.out _ H_hf.out).mono ?_
  rintro e w2 ⟨x, rfl, ⟨nb, v, l, rfl, s1, s2, s3, s4⟩, f2⟩
  obtain ⟨al, cl, rfl⟩ := s1.form
  obtain ⟨h, hh⟩ : ∃ h, h = w2.heap.size := ⟨_, rfl⟩
  clear k0 k1 k2
  have H_s1 := Lib.hid s1; clear s1
  have H_s2 := Lib.hid s2; clear s2
  have H_s3 := Lib.hid s3; clear s3
  have H_s4 := Lib.hid s4; clear s4
  have H_f2 := Lib.hid f2; clear f2
  have H_hh := Lib.hid hh; clear hh
  go_wp2_with (fail)
  generalize hw3 : w2.alloc _ = w3
  have f3 : Fresh w2 w3 := by rw [← hw3]; exact (Keep.refl _ _).alloc _
  have r3 : w3.heap[h]? = some (.cells #[.bool nb, .slice al l.length cl, .int .i64 (-(t : Int))] 49 (0, 0)) := by rw [← hw3, H_hh.out]; exact heap_alloc_new w2 _
  rw [← H_hh.out]
  have f3 := fresh_trans H_f2.out f3
  have s1 := H_s1.out.fresh (by rw [← hw3]; exact (Keep.refl _ _).alloc _ : Fresh w2 w3)
  have b1 := row_fresh H_b1.out f3
  have k0 := row_cell b1 0
  have k1 := row_cell b1 1
  have k2 := row_cell b1 2
  have k3 := row_cell r3 0
  have k4 := row_cell r3 1
  have k5 := row_cell r3 2
  simp at k0 k1 k2 k3 k4 k5
  have hll : l.length ≤ 400 := H_s2.out.s_len_le (by rw [sgn_sint H_s4.out]; exact H_hR.out)
  have hfrac := fun W (hW : Fresh w3 W) => DecFrac_any nb _ l t W (s1.fresh hW) H_s2.out H_s3.out (by have := H_ht19.out; omega) (by omega)
  rw [H_s4.out] at hfrac
  have hhas := fun W x (hxx : SFr W x (sgnN z (rhe (z.natAbs * 10 ^ t) d)) (10 ^ t)) => FixHas_same neg c s x W H_hs.out H_hc.out H_hcan.out _ _ (by rw [sgnN_abs]; exact spow_more H_hR.out (by omega)) (ten_spow H_ht19.out) H_hq.out hxx
  clear H_s1 H_b1 b1 hll
  have H_f3 := Lib.hid f3; clear f3
  have H_s1 := Lib.hid s1; clear s1
  have H_r3 := Lib.hid r3; clear r3
  have H_hfrac := Lib.hid hfrac; clear hfrac
  have H_hhas := Lib.hid hhas; clear hhas
  have H_hw3 := Lib.hid hw3; clear hw3
  go_wp2_with (fail)
  go_region_held3 (fun (w' : World) => w'.cell? ⟨g, 0, none⟩ = some (.bool neg) ∧ w'.cell? ⟨g, 1, none⟩ = some (.int .u64 c) ∧ w'.cell? ⟨g, 2, none⟩ = some (.int .i64 s) ∧ w'.cell? ⟨h, 0, none⟩ = some (.bool nb) ∧ w'.cell? ⟨h, 1, none⟩ = some (.slice al l.length cl) ∧ w'.cell? ⟨h, 2, none⟩ = some (.int .i64 (-(t : Int)))) (first | exact ⟨k0, k1, k2, k3, k4, k5⟩ | exact ⟨m0, m1, m2, m3, m4, m5⟩ | exact ⟨nc0, nc1, nc2, nc3, nc4, nc5⟩) (first
    | (go_at_call 15; (with_reducible refine (H_hfrac.out _ ?c1).mono ?_); (case c1 => first | exact Keep.refl _ _ | exact (Keep.refl _ _).drew | exact (Keep.refl _ _).drewN _); rintro e w4 ⟨x4, rfl, y4, f4⟩; have hf4 : Fresh w3 w4 := (by first | exact f4 | exact f4.of_drew | exact f4.of_drewN); have m0 := cell_fresh k0 hf4; have m1 := cell_fresh k1 hf4; have m2 := cell_fresh k2 hf4; have m3 := cell_fresh k3 hf4; have m4 := cell_fresh k4 hf4; have m5 := cell_fresh k5 hf4; have H_y4 := Lib.hid y4; have H_hf4 := Lib.hid hf4; clear y4 f4 hf4)
    | (go_at_call 14; (with_reducible refine (H_hhas.out _ _ H_y4.out).mono ?_); rintro e w5 ⟨rfl, f5⟩; have nc0 := cell_fresh m0 f5; have nc1 := cell_fresh m1 f5; have nc2 := cell_fresh m2 f5; have nc3 := cell_fresh m3 f5; have nc4 := cell_fresh m4 f5; have nc5 := cell_fresh m5 f5; have H_f5 := Lib.hid f5; clear f5))
  go_wp2
  go_ret
  exact ⟨rfl, fresh_trans (fresh_trans (fresh_trans H_hf.out H_f3.out) H_hf4.out) H_f5.out⟩

end Go.Proofs.YtjjolcjeiogdmabGreatDoor
