/- big: dividing two words by one: bitsDiv64, bitsDiv. -/
import Derived.Test.YtllencgncinphaaGreatDoorKE20
namespace Go.Proofs.YtllencgncinphaaGreatDoor
open Go.RowKit
open Go.Lib (hid)
set_option maxRecDepth 200000
set_option maxHeartbeats 8000000

theorem wum (n : Nat) (h : n < 18446744073709551616) : IntKind.u64.wrap (n : Int) = (n : Int) := by
 simp [IntKind.wrap, IntKind.bits, IntKind.signed]; omega

theorem wrap_u64_mod (n : Nat) : IntKind.u64.wrap (n : Int) = ((n % 18446744073709551616 : Nat) : Int) := by
 simp [IntKind.wrap, IntKind.bits, IntKind.signed]

theorem wrap_u64_int (z : Int) : IntKind.u64.wrap z = z % 18446744073709551616 := by
 simp [IntKind.wrap, IntKind.bits, IntKind.signed]

theorem wrap_diff {T P u r : Nat} (h : T + u = P + r) (hr : r < 18446744073709551616) :
 IntKind.u64.wrap (((T % 18446744073709551616 + u) % 18446744073709551616 : Nat) - ((P % 18446744073709551616 : Nat) : Int)) = (r : Int) := by
 rw [wrap_u64_int]; omega

def DivRet (w : World) (hi lo y : Nat) (e : Ending) (w' : World) : Prop := ∃ q r : Nat, e = .returned (.tuple #[.int .u64 q, .int .u64 r]) ∧ hi * 18446744073709551616 + lo = q * y + r ∧ r < y ∧ q < 18446744073709551616 ∧ Fresh w w'

theorem bitsDiv64_zero (lo y : Nat) (w : World) (hlo : lo < 18446744073709551616) (hy : y < 18446744073709551616) (h0 : 0 < y) :
 Calls Tryz.prog 231 #[.int .u64 (0 : Nat), .int .u64 lo, .int .u64 y] w (DivRet w 0 lo y) := by
 have t0 : ((y : Int) == 0) = false := by rw [beq_eq_false_iff_ne]; omega
 have hyN : ¬ y = 0 := by omega
 have hdiv : Int.tdiv (lo : Int) (y : Int) = ((lo / y : Nat) : Int) := by rw [Int.tdiv_eq_ediv_of_nonneg (by omega)]; rfl
 have hmod : Int.tmod (lo : Int) (y : Int) = ((lo % y : Nat) : Int) := by rw [Int.tmod_eq_emod_of_nonneg (by omega)]; rfl
 have hq := Nat.div_le_self lo y
 have hr := Nat.mod_lt lo h0
 have he := Nat.div_add_mod lo y
 generalize lo / y = q at *
 generalize lo % y = r at *
 have H_he := hid he
 clear he
 go_enter Tryz.func231, Tryz.ntmps231
 go_wp2_with (go_quiet (fail))
 go_ret2
 exact ⟨q, r, rfl, by rw [Nat.zero_mul, Nat.zero_add, Nat.mul_comm]; exact H_he.out.symm, hr, by omega, (Keep.refl _ _).drewN _⟩

theorem guess_ge32 {u u1 y1 y0 b : Nat} (h : 0 < y1) (hb : u1 < b) : (u * b + u1) / (y1 * b + y0) ≤ u / y1 := by
 rw [Nat.le_div_iff_mul_le h]
 have hd := Nat.div_mul_le_self (u * b + u1) (y1 * b + y0)
 generalize (u * b + u1) / (y1 * b + y0) = D at *
 have h5 : D * (y1 * b) ≤ D * (y1 * b + y0) := Nat.mul_le_mul_left _ (by omega)
 rw [← Nat.mul_assoc] at h5
 have h6 : D * y1 * b < (u + 1) * b := by rw [Nat.add_mul, Nat.one_mul]; omega
 exact Nat.le_of_lt_succ (Nat.lt_of_mul_lt_mul_right h6)

theorem two_digits {hi un1 un0 q1 q2 y un21 rr b : Nat} (e1 : hi * b + un1 = q1 * y + un21) (e2 : un21 * b + un0 = q2 * y + rr) : hi * (b * b) + (un1 * b + un0) = (q1 * b + q2) * y + rr := by
 have h1 : hi * (b * b) + (un1 * b + un0) = (hi * b + un1) * b + un0 := by rw [Nat.add_mul, Nat.mul_assoc]; omega
 rw [h1, e1, Nat.add_mul, Nat.add_mul, Nat.mul_right_comm]
 omega

theorem knuth_half {y1 y0 u u1 Q : Nat} (hu : u < y1 * 4294967296 + y0) (hu1 : u1 < 4294967296) (hQ : Q = (u * 4294967296 + u1) / (y1 * 4294967296 + y0)) : Q * (y1 * 4294967296 + y0) ≤ u * 4294967296 + u1 ∧ Q < 4294967296 := by
 have hp : 0 < y1 * 4294967296 + y0 := by omega
 refine ⟨by rw [hQ]; exact Nat.div_mul_le_self _ _, ?_⟩
 rw [hQ, Nat.div_lt_iff_lt_mul hp]
 have := Nat.mul_le_mul_right 4294967296 hu
 rw [Nat.succ_mul] at this
 rw [Nat.mul_comm 4294967296]
 omega

theorem bitsDiv64_norm (hi lo y yn1 yn0 un1 un0 : Nat) (w : World) (hhi : hi < y) (h0 : 0 < hi) (hlo : lo < 18446744073709551616) (hy : y < 18446744073709551616) (hn : 9223372036854775808 ≤ y)
 (ey1 : y / 4294967296 = yn1) (ey0 : y % 4294967296 = yn0) (eu1 : lo / 4294967296 = un1) (eu0 : lo % 4294967296 = un0) :
 Calls Tryz.prog 231 #[.int .u64 hi, .int .u64 lo, .int .u64 y] w (DivRet w hi lo y) := by
 have t0 : ((y : Int) == 0) = false := by rw [beq_eq_false_iff_ne]; omega
 have hyN : ¬ y = 0 := by omega
 have t1 : decide ((y : Int) ≤ (hi : Int)) = false := by simp; omega
 have hyhi : ¬ y ≤ hi := by omega
 have t2 : ((hi : Int) == 0) = false := by rw [beq_eq_false_iff_ne]; omega
 have hhi0 : ¬ hi = 0 := by omega
 have hlz := fun W => LeadingZeros64_any y W hy (by omega)
 have eY : y = yn1 * 4294967296 + yn0 := by omega
 have eL : lo = un1 * 4294967296 + un0 := by omega
 have hy1 : yn1 < 4294967296 := by omega
 have hy0 : yn0 < 4294967296 := by omega
 have hb : 4294967296 ≤ 2 * yn1 := by omega
 have hu1 : un1 < 4294967296 := by omega
 have hu0 : un0 < 4294967296 := by omega
 have iy1 : (y : Int) / 4294967296 = (yn1 : Int) := by omega
 have iy0 : bits BinOp.and IntKind.u64 (y : Int) 4294967295 = (yn0 : Int) := by rw [Mul64.maskN y hy, ey0]
 have iu1 : (lo : Int) / 4294967296 = (un1 : Int) := by omega
 have iu0 : bits BinOp.and IntKind.u64 (lo : Int) 4294967295 = (un0 : Int) := by rw [Mul64.maskN lo hlo, eu0]
 have il : (lo : Int) / 18446744073709551616 = 0 := by omega
 have ior : bits BinOp.or IntKind.u64 (hi : Int) 0 = (hi : Int) := by
  have := bits_or_u64_nat hi 0 (by omega) (by omega)
  simpa using this
 -- the two digits
 obtain ⟨Q1, eQ1⟩ : ∃ Q, Q = (hi * 4294967296 + un1) / (yn1 * 4294967296 + yn0) := ⟨_, rfl⟩
 have hQ1 := knuth_half (by rw [← eY]; exact hhi) hu1 eQ1
 obtain ⟨un21, hun21⟩ : ∃ u, u = hi * 4294967296 + un1 - Q1 * (yn1 * 4294967296 + yn0) := ⟨_, rfl⟩
 have hyp : 0 < yn1 * 4294967296 + yn0 := by omega
 have hu21 : un21 < yn1 * 4294967296 + yn0 ∧ hi * 4294967296 + un1 = Q1 * (yn1 * 4294967296 + yn0) + un21 := by
  have e := Nat.div_add_mod (hi * 4294967296 + un1) (yn1 * 4294967296 + yn0)
  have l := Nat.mod_lt (hi * 4294967296 + un1) hyp
  rw [← eQ1, Nat.mul_comm] at e
  omega
 obtain ⟨Q2, eQ2⟩ : ∃ Q, Q = (un21 * 4294967296 + un0) / (yn1 * 4294967296 + yn0) := ⟨_, rfl⟩
 have hQ2 := knuth_half hu21.1 hu0 eQ2
 obtain ⟨rr, hrr0⟩ : ∃ u, u = un21 * 4294967296 + un0 - Q2 * (yn1 * 4294967296 + yn0) := ⟨_, rfl⟩
 have hr21 : rr < yn1 * 4294967296 + yn0 ∧ un21 * 4294967296 + un0 = Q2 * (yn1 * 4294967296 + yn0) + rr := by
  have e := Nat.div_add_mod (un21 * 4294967296 + un0) (yn1 * 4294967296 + yn0)
  have l := Nat.mod_lt (un21 * 4294967296 + un0) hyp
  rw [← eQ2, Nat.mul_comm] at e
  omega
 have eQ1' : Q1 ≤ Q1 := Nat.le_refl _
 -- the first guesses
 obtain ⟨g1, hg1⟩ : ∃ g, g = hi / yn1 := ⟨_, rfl⟩
 obtain ⟨r1, hr1⟩ : ∃ r, r = hi % yn1 := ⟨_, rfl⟩
 have qe1 : g1 * yn1 + r1 = hi := by
  have := Nat.div_add_mod hi yn1
  rw [← hg1, ← hr1, Nat.mul_comm] at this
  exact this
 have rs1 : r1 < 4294967296 := by have := Nat.mod_lt hi (show 0 < yn1 by omega); omega
 have qs1 : g1 ≤ 4294967297 := kn_start hy0 hb (by rw [← eY]; exact hhi) qe1
 have qg1 : Q1 ≤ g1 := by
  rw [eQ1, hg1]
  exact guess_ge32 (by omega) (by omega)
 have d1 : Int.tdiv (hi : Int) (yn1 : Int) = (g1 : Int) := by rw [Int.tdiv_eq_ediv_of_nonneg (by omega), hg1]; rfl
 have e1 : IntKind.u64.wrap (g1 : Int) = (g1 : Int) := wum _ (by omega)
 obtain ⟨P1, hP1⟩ : ∃ p, p = g1 * yn1 := ⟨_, rfl⟩
 have f1 : IntKind.u64.wrap ((g1 : Int) * (yn1 : Int)) = (P1 : Int) := by
  rw [show (g1 : Int) * (yn1 : Int) = ((g1 * yn1 : Nat) : Int) from by simp, ← hP1]; exact wum _ (by omega)
 have i1 : (hi : Int) - (P1 : Int) = (r1 : Int) := by omega
 have j1 : IntKind.u64.wrap (r1 : Int) = (r1 : Int) := wum _ (by omega)
 clear hP1 hg1 hr1
 obtain ⟨g2, hg2⟩ : ∃ g, g = un21 / yn1 := ⟨_, rfl⟩
 obtain ⟨r2, hr2⟩ : ∃ r, r = un21 % yn1 := ⟨_, rfl⟩
 have qe2 : g2 * yn1 + r2 = un21 := by
  have := Nat.div_add_mod un21 yn1
  rw [← hg2, ← hr2, Nat.mul_comm] at this
  exact this
 have rs2 : r2 < 4294967296 := by have := Nat.mod_lt un21 (show 0 < yn1 by omega); omega
 have qs2 : g2 ≤ 4294967297 := kn_start hy0 hb hu21.1 qe2
 have qg2 : Q2 ≤ g2 := by
  rw [eQ2, hg2]
  exact guess_ge32 (by omega) (by omega)
 have d2 : Int.tdiv (un21 : Int) (yn1 : Int) = (g2 : Int) := by rw [Int.tdiv_eq_ediv_of_nonneg (by omega), hg2]; rfl
 have e2 : IntKind.u64.wrap (g2 : Int) = (g2 : Int) := wum _ (by omega)
 obtain ⟨P2, hP2⟩ : ∃ p, p = g2 * yn1 := ⟨_, rfl⟩
 have f2 : IntKind.u64.wrap ((g2 : Int) * (yn1 : Int)) = (P2 : Int) := by
  rw [show (g2 : Int) * (yn1 : Int) = ((g2 * yn1 : Nat) : Int) from by simp, ← hP2]; exact wum _ (by omega)
 have i2 : (un21 : Int) - (P2 : Int) = (r2 : Int) := by omega
 have j2 : IntKind.u64.wrap (r2 : Int) = (r2 : Int) := wum _ (by omega)
 clear hP2 hg2 hr2
 -- what the words come to
 have m1 : IntKind.u64.wrap ((hi : Int) * 4294967296) = ((hi * 4294967296 % 18446744073709551616 : Nat) : Int) := by
  rw [show (hi : Int) * 4294967296 = ((hi * 4294967296 : Nat) : Int) from by omega]; exact wrap_u64_mod _
 obtain ⟨A1, hA1⟩ : ∃ a, a = hi * 4294967296 % 18446744073709551616 := ⟨_, rfl⟩
 have m2 : IntKind.u64.wrap ((A1 : Int) + (un1 : Int)) = (((A1 + un1) % 18446744073709551616 : Nat) : Int) := by
  rw [show (A1 : Int) + (un1 : Int) = ((A1 + un1 : Nat) : Int) from by omega]; exact wrap_u64_mod _
 obtain ⟨A2, hA2⟩ : ∃ a, a = (A1 + un1) % 18446744073709551616 := ⟨_, rfl⟩
 have m3 : IntKind.u64.wrap ((Q1 : Int) * (y : Int)) = ((Q1 * y % 18446744073709551616 : Nat) : Int) := by
  rw [show (Q1 : Int) * (y : Int) = ((Q1 * y : Nat) : Int) from by simp]; exact wrap_u64_mod _
 obtain ⟨A3, hA3⟩ : ∃ a, a = Q1 * y % 18446744073709551616 := ⟨_, rfl⟩
 have m4 : IntKind.u64.wrap ((A2 : Int) - (A3 : Int)) = (un21 : Int) := by
  rw [hA2, hA3, hA1]; exact wrap_diff (by rw [eY]; exact hu21.2) (by omega)
 have n1 : IntKind.u64.wrap ((un21 : Int) * 4294967296) = ((un21 * 4294967296 % 18446744073709551616 : Nat) : Int) := by
  rw [show (un21 : Int) * 4294967296 = ((un21 * 4294967296 : Nat) : Int) from by omega]; exact wrap_u64_mod _
 obtain ⟨B1, hB1⟩ : ∃ a, a = un21 * 4294967296 % 18446744073709551616 := ⟨_, rfl⟩
 have n2 : IntKind.u64.wrap ((B1 : Int) + (un0 : Int)) = (((B1 + un0) % 18446744073709551616 : Nat) : Int) := by
  rw [show (B1 : Int) + (un0 : Int) = ((B1 + un0 : Nat) : Int) from by omega]; exact wrap_u64_mod _
 obtain ⟨B2, hB2⟩ : ∃ a, a = (B1 + un0) % 18446744073709551616 := ⟨_, rfl⟩
 have n3 : IntKind.u64.wrap ((Q2 : Int) * (y : Int)) = ((Q2 * y % 18446744073709551616 : Nat) : Int) := by
  rw [show (Q2 : Int) * (y : Int) = ((Q2 * y : Nat) : Int) from by simp]; exact wrap_u64_mod _
 obtain ⟨B3, hB3⟩ : ∃ a, a = Q2 * y % 18446744073709551616 := ⟨_, rfl⟩
 have n4 : IntKind.u64.wrap ((B2 : Int) - (B3 : Int)) = (rr : Int) := by
  rw [hB2, hB3, hB1]; exact wrap_diff (by rw [eY]; exact hr21.2) (by omega)
 have hq64 : Q1 * 4294967296 + Q2 < 18446744073709551616 := by omega
 obtain ⟨Qh, hQh⟩ : ∃ a, a = Q1 * 4294967296 := ⟨_, rfl⟩
 have n5 : IntKind.u64.wrap ((Q1 : Int) * 4294967296) = (Qh : Int) := by
  rw [show (Q1 : Int) * 4294967296 = (Qh : Int) from by omega]; exact wum _ (by omega)
 obtain ⟨QQ, hfq⟩ : ∃ a, a = Q1 * 4294967296 + Q2 := ⟨_, rfl⟩
 have n6 : (Qh : Int) + (Q2 : Int) = (QQ : Int) := by omega
 have n7 : QQ < 18446744073709551616 := by omega
 have n7w : IntKind.u64.wrap (QQ : Int) = (QQ : Int) := wum _ n7
 have hfin : hi * 18446744073709551616 + lo = (Q1 * 4294967296 + Q2) * y + rr := by
  have e := two_digits hu21.2 hr21.2
  rw [← eY, ← eL] at e
  exact e
 have hrr : rr < y := by rw [eY]; exact hr21.1
 have hun64 : un21 < 18446744073709551616 := by omega
 have hrr64 : rr < 18446744073709551616 := by omega
 rw [← hA1] at m1
 rw [← hA2] at m2
 rw [← hA3] at m3
 rw [← hB1] at n1
 rw [← hB2] at n2
 rw [← hB3] at n3
 have hQ1s := hQ1.2
 have hQ2s := hQ2.2
 clear hA1 hA2 hA3 hB1 hB2 hB3 hQh eL eY ey1 ey0 eu1 eu0 hr21 hu21 hrr0 hun21 eQ1'
 have H_hlz := hid hlz; have H_hQ1 := hid hQ1; have H_hQ2 := hid hQ2; have H_eQ1 := hid eQ1; have H_eQ2 := hid eQ2; have H_hfq := hid hfq; have H_hfin := hid hfin; have H_hrr := hid hrr; have H_hq64 := hid hq64; have H_hyp := hid hyp; have H_hb := hid hb; have H_hy0 := hid hy0; have H_hy1 := hid hy1; have H_hu1 := hid hu1; have H_hu0 := hid hu0; have H_qe1 := hid qe1; have H_qg1 := hid qg1; have H_qs1 := hid qs1; have H_rs1 := hid rs1; have H_qe2 := hid qe2; have H_qg2 := hid qg2; have H_qs2 := hid qs2; have H_rs2 := hid rs2; clear hlz hQ1 hQ2 eQ1 eQ2 hfq hfin hrr hq64 hyp hb hy0 hy1 hu1 hu0 qe1 qg1 qs1 rs1 qe2 qg2 qs2 rs2
 have hu1' := H_hu1.out
 have hu0' := H_hu0.out
 go_enter Tryz.func231, Tryz.ntmps231
 go_wp2_with (fail)
 refine (H_hlz.out _).mono ?_
 rintro e w2 ⟨s, rfl, hl, hs⟩
 subst hs
 obtain rfl : s = 0 := by
  obtain ⟨_, _, h3⟩ := hl
  rcases Nat.eq_zero_or_pos s with h | h
  · exact h
  · exfalso
    have : 2 ^ 1 ≤ 2 ^ s := Nat.pow_le_pow_right (by omega) h
    have := Nat.mul_le_mul hn this
    omega
 clear hl
 go_wp2_with (fail)
 go_loopw [15, 16] (fun a b wr => ∃ q rh : Nat, a = .int .u64 q ∧ b = .int .u64 rh ∧ q ≤ 4294967297 ∧ rh < 4294967296 ∧ Hid (q * yn1 + rh = hi) ∧ Hid (Q1 ≤ q) ∧ w2 = wr) (fun a _ _ => (intOf a).toNat)
 case atStart => exact ⟨_, _, rfl, rfl, H_qs1.out, H_rs1.out, H_qe1, H_qg1, rfl⟩
 case round =>
  obtain ⟨q, rh, rfl, rfl, hq9, hrh, hqe, hqg, rfl⟩ := hrel
  by_cases hA : 4294967296 ≤ q
  · have hq1 : 1 ≤ q := by omega
    have t5 : decide ((4294967296 : Int) ≤ (q : Int)) = true := by simp; omega
    have hgr := kn_great (y0 := yn0) (u1 := un1) hqe.out H_hQ1.out.1 H_hQ1.out.2 (.inl hA)
    obtain ⟨p, hp⟩ : ∃ p, p = q - 1 := ⟨_, rfl⟩
    rw [← hp] at hgr
    have hpI : (q : Int) - 1 = (p : Int) := by omega
    have hqe2 : p * yn1 + (rh + yn1) = hi := by
     have h1 := hqe.out
     have h2 : q = p + 1 := by omega
     rw [h2, Nat.add_mul, Nat.one_mul] at h1
     omega
    have hp9 : p ≤ 4294967296 := by omega
    have hplt : p < q := by omega
    clear hp
    obtain ⟨r2, hr2⟩ : ∃ r2, r2 = rh + yn1 := ⟨_, rfl⟩
    rw [← hr2] at hqe2
    have hr2I : (rh : Int) + (yn1 : Int) = (r2 : Int) := by omega
    have hr2b : r2 < 18446744073709551616 := by have := H_hy1.out; omega
    by_cases hC : 4294967296 ≤ r2
    · have t7 : decide ((4294967296 : Int) ≤ (r2 : Int)) = true := by simp; omega
      have hq : Q1 = p := (kn_is H_hyp.out H_eQ1.out hgr (kn_end hqe2 (kn_far H_hy0.out (by omega) hC))).symm
      subst hq
      clear hr2 hqe hqg hqe2 hgr
      go_wp2_with (fail)
      go_loopw [18, 16] (fun a b wr => ∃ q rh : Nat, a = .int .u64 q ∧ b = .int .u64 rh ∧ q ≤ 4294967297 ∧ rh < 4294967296 ∧ Hid (q * yn1 + rh = un21) ∧ Hid (Q2 ≤ q) ∧ w2 = wr) (fun a _ _ => (intOf a).toNat)
      case atStart => exact ⟨_, _, rfl, rfl, H_qs2.out, H_rs2.out, H_qe2, H_qg2, rfl⟩
      case round =>
       obtain ⟨q, rh, rfl, rfl, hq9, hrh, hqe, hqg, rfl⟩ := hrel
       by_cases hA : 4294967296 ≤ q
       · have hq1 : 1 ≤ q := by omega
         have t5 : decide ((4294967296 : Int) ≤ (q : Int)) = true := by simp; omega
         have hgr := kn_great (y0 := yn0) (u1 := un0) hqe.out H_hQ2.out.1 H_hQ2.out.2 (.inl hA)
         obtain ⟨p, hp⟩ : ∃ p, p = q - 1 := ⟨_, rfl⟩
         rw [← hp] at hgr
         have hpI : (q : Int) - 1 = (p : Int) := by omega
         have hqe2 : p * yn1 + (rh + yn1) = un21 := by
          have h1 := hqe.out
          have h2 : q = p + 1 := by omega
          rw [h2, Nat.add_mul, Nat.one_mul] at h1
          omega
         have hp9 : p ≤ 4294967296 := by omega
         have hplt : p < q := by omega
         clear hp
         obtain ⟨r2, hr2⟩ : ∃ r2, r2 = rh + yn1 := ⟨_, rfl⟩
         rw [← hr2] at hqe2
         have hr2I : (rh : Int) + (yn1 : Int) = (r2 : Int) := by omega
         have hr2b : r2 < 18446744073709551616 := by have := H_hy1.out; omega
         by_cases hC : 4294967296 ≤ r2
         · have t7 : decide ((4294967296 : Int) ≤ (r2 : Int)) = true := by simp; omega
           have hq : Q2 = p := (kn_is H_hyp.out H_eQ2.out hgr (kn_end hqe2 (kn_far H_hy0.out (by omega) hC))).symm
           subst hq
           clear hr2 hqe hqg hqe2 hgr
           go_wp2_with (fail)
           go_ret2
           exact ⟨QQ, rr, rfl, by rw [H_hfq.out]; exact H_hfin.out, H_hrr.out, by rw [H_hfq.out]; exact H_hq64.out, Keep.refl _ _⟩
         · have t7 : decide ((4294967296 : Int) ≤ (r2 : Int)) = false := by simp; omega
           have hCn : ¬ 4294967296 ≤ r2 := hC
           clear hr2
           have H_hqe2 := hid hqe2; have H_hgr := hid hgr; clear hqe2 hgr
           go_wp2_with (fail)
           go_roundw
           case rel => exact ⟨p, r2, by simp, rfl, by omega, by omega, H_hqe2, H_hgr, by first | rfl | trivial⟩
           case measure => simp [intOf] <;> omega
       · have t5 : decide ((4294967296 : Int) ≤ (q : Int)) = false := by simp; omega
         have hP9 : q * yn0 < 18446744073709551616 := by
          have : q * yn0 ≤ 4294967295 * 4294967295 := Nat.mul_le_mul (by omega) (by have := H_hy0.out; omega)
          omega
         have hPI : IntKind.u64.wrap ((q : Int) * (yn0 : Int)) = ((q * yn0 : Nat) : Int) := by
          have e : (q : Int) * (yn0 : Int) = ((q * yn0 : Nat) : Int) := by simp
          rw [e]; exact wum _ hP9
         obtain ⟨R, hR⟩ : ∃ R, R = 4294967296 * rh := ⟨_, rfl⟩
         have hRI : IntKind.u64.wrap (4294967296 * (rh : Int)) = (R : Int) := by
          have e : 4294967296 * (rh : Int) = (R : Int) := by omega
          rw [e]; exact wum _ (by omega)
         obtain ⟨S, hS⟩ : ∃ S, S = R + un0 := ⟨_, rfl⟩
         have hSI : (R : Int) + (un0 : Int) = (S : Int) := by omega
         have hS9 : S < 18446744073709551616 := by omega
         have hSw : IntKind.u64.wrap (S : Int) = (S : Int) := wum _ hS9
         obtain ⟨P, hP⟩ : ∃ P, P = q * yn0 := ⟨_, rfl⟩
         rw [← hP] at hP9 hPI
         have hAn : ¬ 4294967296 ≤ q := hA
         by_cases hB : S < P
         · have t6 : decide ((S : Int) < (P : Int)) = true := by simp; omega
           have hgr := kn_great (y0 := yn0) (u1 := un0) hqe.out H_hQ2.out.1 H_hQ2.out.2 (.inr (by rw [← hP, ← hR, ← hS]; exact hB))
           have hq1 : 1 ≤ q := by
            rcases Nat.eq_zero_or_pos q with h | h
            · rw [h, Nat.zero_mul] at hP; omega
            · exact h
           clear hP hR hS
           obtain ⟨p, hp⟩ : ∃ p, p = q - 1 := ⟨_, rfl⟩
           rw [← hp] at hgr
           have hpI : (q : Int) - 1 = (p : Int) := by omega
           have hqe2 : p * yn1 + (rh + yn1) = un21 := by
            have h1 := hqe.out
            have h2 : q = p + 1 := by omega
            rw [h2, Nat.add_mul, Nat.one_mul] at h1
            omega
           have hp9 : p ≤ 4294967296 := by omega
           have hplt : p < q := by omega
           clear hp
           obtain ⟨r2, hr2⟩ : ∃ r2, r2 = rh + yn1 := ⟨_, rfl⟩
           rw [← hr2] at hqe2
           have hr2I : (rh : Int) + (yn1 : Int) = (r2 : Int) := by omega
           have hr2b : r2 < 18446744073709551616 := by have := H_hy1.out; omega
           by_cases hC : 4294967296 ≤ r2
           · have t7 : decide ((4294967296 : Int) ≤ (r2 : Int)) = true := by simp; omega
             have hq : Q2 = p := (kn_is H_hyp.out H_eQ2.out hgr (kn_end hqe2 (kn_far H_hy0.out (by omega) hC))).symm
             subst hq
             clear hr2 hqe hqg hqe2 hgr
             go_wp2_with (fail)
             go_ret2
             exact ⟨QQ, rr, rfl, by rw [H_hfq.out]; exact H_hfin.out, H_hrr.out, by rw [H_hfq.out]; exact H_hq64.out, Keep.refl _ _⟩
           · have t7 : decide ((4294967296 : Int) ≤ (r2 : Int)) = false := by simp; omega
             have hCn : ¬ 4294967296 ≤ r2 := hC
             clear hr2
             have H_hqe2 := hid hqe2; have H_hgr := hid hgr; clear hqe2 hgr
             go_wp2_with (fail)
             go_roundw
             case rel => exact ⟨p, r2, by simp, rfl, by omega, by omega, H_hqe2, H_hgr, by first | rfl | trivial⟩
             case measure => simp [intOf] <;> omega
         · have t6 : decide ((S : Int) < (P : Int)) = false := by simp; omega
           have hq : Q2 = q := (kn_is H_hyp.out H_eQ2.out hqg.out (kn_end hqe.out (by rw [← hP, ← hR, ← hS]; omega))).symm
           subst hq
           clear hP hR hS hqe hqg
           go_wp2_with (fail)
           go_ret2
           exact ⟨QQ, rr, rfl, by rw [H_hfq.out]; exact H_hfin.out, H_hrr.out, by rw [H_hfq.out]; exact H_hq64.out, Keep.refl _ _⟩
    · have t7 : decide ((4294967296 : Int) ≤ (r2 : Int)) = false := by simp; omega
      have hCn : ¬ 4294967296 ≤ r2 := hC
      clear hr2
      have H_hqe2 := hid hqe2; have H_hgr := hid hgr; clear hqe2 hgr
      go_wp2_with (fail)
      go_roundw
      case rel => exact ⟨p, r2, by simp, rfl, by omega, by omega, H_hqe2, H_hgr, by first | rfl | trivial⟩
      case measure => simp [intOf] <;> omega
  · have t5 : decide ((4294967296 : Int) ≤ (q : Int)) = false := by simp; omega
    have hP9 : q * yn0 < 18446744073709551616 := by
     have : q * yn0 ≤ 4294967295 * 4294967295 := Nat.mul_le_mul (by omega) (by have := H_hy0.out; omega)
     omega
    have hPI : IntKind.u64.wrap ((q : Int) * (yn0 : Int)) = ((q * yn0 : Nat) : Int) := by
     have e : (q : Int) * (yn0 : Int) = ((q * yn0 : Nat) : Int) := by simp
     rw [e]; exact wum _ hP9
    obtain ⟨R, hR⟩ : ∃ R, R = 4294967296 * rh := ⟨_, rfl⟩
    have hRI : IntKind.u64.wrap (4294967296 * (rh : Int)) = (R : Int) := by
     have e : 4294967296 * (rh : Int) = (R : Int) := by omega
     rw [e]; exact wum _ (by omega)
    obtain ⟨S, hS⟩ : ∃ S, S = R + un1 := ⟨_, rfl⟩
    have hSI : (R : Int) + (un1 : Int) = (S : Int) := by omega
    have hS9 : S < 18446744073709551616 := by omega
    have hSw : IntKind.u64.wrap (S : Int) = (S : Int) := wum _ hS9
    obtain ⟨P, hP⟩ : ∃ P, P = q * yn0 := ⟨_, rfl⟩
    rw [← hP] at hP9 hPI
    have hAn : ¬ 4294967296 ≤ q := hA
    by_cases hB : S < P
    · have t6 : decide ((S : Int) < (P : Int)) = true := by simp; omega
      have hgr := kn_great (y0 := yn0) (u1 := un1) hqe.out H_hQ1.out.1 H_hQ1.out.2 (.inr (by rw [← hP, ← hR, ← hS]; exact hB))
      have hq1 : 1 ≤ q := by
       rcases Nat.eq_zero_or_pos q with h | h
       · rw [h, Nat.zero_mul] at hP; omega
       · exact h
      clear hP hR hS
      obtain ⟨p, hp⟩ : ∃ p, p = q - 1 := ⟨_, rfl⟩
      rw [← hp] at hgr
      have hpI : (q : Int) - 1 = (p : Int) := by omega
      have hqe2 : p * yn1 + (rh + yn1) = hi := by
       have h1 := hqe.out
       have h2 : q = p + 1 := by omega
       rw [h2, Nat.add_mul, Nat.one_mul] at h1
       omega
      have hp9 : p ≤ 4294967296 := by omega
      have hplt : p < q := by omega
      clear hp
      obtain ⟨r2, hr2⟩ : ∃ r2, r2 = rh + yn1 := ⟨_, rfl⟩
      rw [← hr2] at hqe2
      have hr2I : (rh : Int) + (yn1 : Int) = (r2 : Int) := by omega
      have hr2b : r2 < 18446744073709551616 := by have := H_hy1.out; omega
      by_cases hC : 4294967296 ≤ r2
      · have t7 : decide ((4294967296 : Int) ≤ (r2 : Int)) = true := by simp; omega
        have hq : Q1 = p := (kn_is H_hyp.out H_eQ1.out hgr (kn_end hqe2 (kn_far H_hy0.out (by omega) hC))).symm
        subst hq
        clear hr2 hqe hqg hqe2 hgr
        go_wp2_with (fail)
        go_loopw [18, 16] (fun a b wr => ∃ q rh : Nat, a = .int .u64 q ∧ b = .int .u64 rh ∧ q ≤ 4294967297 ∧ rh < 4294967296 ∧ Hid (q * yn1 + rh = un21) ∧ Hid (Q2 ≤ q) ∧ w2 = wr) (fun a _ _ => (intOf a).toNat)
        case atStart => exact ⟨_, _, rfl, rfl, H_qs2.out, H_rs2.out, H_qe2, H_qg2, rfl⟩
        case round =>
         obtain ⟨q, rh, rfl, rfl, hq9, hrh, hqe, hqg, rfl⟩ := hrel
         by_cases hA : 4294967296 ≤ q
         · have hq1 : 1 ≤ q := by omega
           have t5 : decide ((4294967296 : Int) ≤ (q : Int)) = true := by simp; omega
           have hgr := kn_great (y0 := yn0) (u1 := un0) hqe.out H_hQ2.out.1 H_hQ2.out.2 (.inl hA)
           obtain ⟨p, hp⟩ : ∃ p, p = q - 1 := ⟨_, rfl⟩
           rw [← hp] at hgr
           have hpI : (q : Int) - 1 = (p : Int) := by omega
           have hqe2 : p * yn1 + (rh + yn1) = un21 := by
            have h1 := hqe.out
            have h2 : q = p + 1 := by omega
            rw [h2, Nat.add_mul, Nat.one_mul] at h1
            omega
           have hp9 : p ≤ 4294967296 := by omega
           have hplt : p < q := by omega
           clear hp
           obtain ⟨r2, hr2⟩ : ∃ r2, r2 = rh + yn1 := ⟨_, rfl⟩
           rw [← hr2] at hqe2
           have hr2I : (rh : Int) + (yn1 : Int) = (r2 : Int) := by omega
           have hr2b : r2 < 18446744073709551616 := by have := H_hy1.out; omega
           by_cases hC : 4294967296 ≤ r2
           · have t7 : decide ((4294967296 : Int) ≤ (r2 : Int)) = true := by simp; omega
             have hq : Q2 = p := (kn_is H_hyp.out H_eQ2.out hgr (kn_end hqe2 (kn_far H_hy0.out (by omega) hC))).symm
             subst hq
             clear hr2 hqe hqg hqe2 hgr
             go_wp2_with (fail)
             go_ret2
             exact ⟨QQ, rr, rfl, by rw [H_hfq.out]; exact H_hfin.out, H_hrr.out, by rw [H_hfq.out]; exact H_hq64.out, Keep.refl _ _⟩
           · have t7 : decide ((4294967296 : Int) ≤ (r2 : Int)) = false := by simp; omega
             have hCn : ¬ 4294967296 ≤ r2 := hC
             clear hr2
             have H_hqe2 := hid hqe2; have H_hgr := hid hgr; clear hqe2 hgr
             go_wp2_with (fail)
             go_roundw
             case rel => exact ⟨p, r2, by simp, rfl, by omega, by omega, H_hqe2, H_hgr, by first | rfl | trivial⟩
             case measure => simp [intOf] <;> omega
         · have t5 : decide ((4294967296 : Int) ≤ (q : Int)) = false := by simp; omega
           have hP9 : q * yn0 < 18446744073709551616 := by
            have : q * yn0 ≤ 4294967295 * 4294967295 := Nat.mul_le_mul (by omega) (by have := H_hy0.out; omega)
            omega
           have hPI : IntKind.u64.wrap ((q : Int) * (yn0 : Int)) = ((q * yn0 : Nat) : Int) := by
            have e : (q : Int) * (yn0 : Int) = ((q * yn0 : Nat) : Int) := by simp
            rw [e]; exact wum _ hP9
           obtain ⟨R, hR⟩ : ∃ R, R = 4294967296 * rh := ⟨_, rfl⟩
           have hRI : IntKind.u64.wrap (4294967296 * (rh : Int)) = (R : Int) := by
            have e : 4294967296 * (rh : Int) = (R : Int) := by omega
            rw [e]; exact wum _ (by omega)
           obtain ⟨S, hS⟩ : ∃ S, S = R + un0 := ⟨_, rfl⟩
           have hSI : (R : Int) + (un0 : Int) = (S : Int) := by omega
           have hS9 : S < 18446744073709551616 := by omega
           have hSw : IntKind.u64.wrap (S : Int) = (S : Int) := wum _ hS9
           obtain ⟨P, hP⟩ : ∃ P, P = q * yn0 := ⟨_, rfl⟩
           rw [← hP] at hP9 hPI
           have hAn : ¬ 4294967296 ≤ q := hA
           by_cases hB : S < P
           · have t6 : decide ((S : Int) < (P : Int)) = true := by simp; omega
             have hgr := kn_great (y0 := yn0) (u1 := un0) hqe.out H_hQ2.out.1 H_hQ2.out.2 (.inr (by rw [← hP, ← hR, ← hS]; exact hB))
             have hq1 : 1 ≤ q := by
              rcases Nat.eq_zero_or_pos q with h | h
              · rw [h, Nat.zero_mul] at hP; omega
              · exact h
             clear hP hR hS
             obtain ⟨p, hp⟩ : ∃ p, p = q - 1 := ⟨_, rfl⟩
             rw [← hp] at hgr
             have hpI : (q : Int) - 1 = (p : Int) := by omega
             have hqe2 : p * yn1 + (rh + yn1) = un21 := by
              have h1 := hqe.out
              have h2 : q = p + 1 := by omega
              rw [h2, Nat.add_mul, Nat.one_mul] at h1
              omega
             have hp9 : p ≤ 4294967296 := by omega
             have hplt : p < q := by omega
             clear hp
             obtain ⟨r2, hr2⟩ : ∃ r2, r2 = rh + yn1 := ⟨_, rfl⟩
             rw [← hr2] at hqe2
             have hr2I : (rh : Int) + (yn1 : Int) = (r2 : Int) := by omega
             have hr2b : r2 < 18446744073709551616 := by have := H_hy1.out; omega
             by_cases hC : 4294967296 ≤ r2
             · have t7 : decide ((4294967296 : Int) ≤ (r2 : Int)) = true := by simp; omega
               have hq : Q2 = p := (kn_is H_hyp.out H_eQ2.out hgr (kn_end hqe2 (kn_far H_hy0.out (by omega) hC))).symm
               subst hq
               clear hr2 hqe hqg hqe2 hgr
               go_wp2_with (fail)
               go_ret2
               exact ⟨QQ, rr, rfl, by rw [H_hfq.out]; exact H_hfin.out, H_hrr.out, by rw [H_hfq.out]; exact H_hq64.out, Keep.refl _ _⟩
             · have t7 : decide ((4294967296 : Int) ≤ (r2 : Int)) = false := by simp; omega
               have hCn : ¬ 4294967296 ≤ r2 := hC
               clear hr2
               have H_hqe2 := hid hqe2; have H_hgr := hid hgr; clear hqe2 hgr
               go_wp2_with (fail)
               go_roundw
               case rel => exact ⟨p, r2, by simp, rfl, by omega, by omega, H_hqe2, H_hgr, by first | rfl | trivial⟩
               case measure => simp [intOf] <;> omega
           · have t6 : decide ((S : Int) < (P : Int)) = false := by simp; omega
             have hq : Q2 = q := (kn_is H_hyp.out H_eQ2.out hqg.out (kn_end hqe.out (by rw [← hP, ← hR, ← hS]; omega))).symm
             subst hq
             clear hP hR hS hqe hqg
             go_wp2_with (fail)
             go_ret2
             exact ⟨QQ, rr, rfl, by rw [H_hfq.out]; exact H_hfin.out, H_hrr.out, by rw [H_hfq.out]; exact H_hq64.out, Keep.refl _ _⟩
      · have t7 : decide ((4294967296 : Int) ≤ (r2 : Int)) = false := by simp; omega
        have hCn : ¬ 4294967296 ≤ r2 := hC
        clear hr2
        have H_hqe2 := hid hqe2; have H_hgr := hid hgr; clear hqe2 hgr
        go_wp2_with (fail)
        go_roundw
        case rel => exact ⟨p, r2, by simp, rfl, by omega, by omega, H_hqe2, H_hgr, by first | rfl | trivial⟩
        case measure => simp [intOf] <;> omega
    · have t6 : decide ((S : Int) < (P : Int)) = false := by simp; omega
      have hq : Q1 = q := (kn_is H_hyp.out H_eQ1.out hqg.out (kn_end hqe.out (by rw [← hP, ← hR, ← hS]; omega))).symm
      subst hq
      clear hP hR hS hqe hqg
      go_wp2_with (fail)
      go_loopw [18, 16] (fun a b wr => ∃ q rh : Nat, a = .int .u64 q ∧ b = .int .u64 rh ∧ q ≤ 4294967297 ∧ rh < 4294967296 ∧ Hid (q * yn1 + rh = un21) ∧ Hid (Q2 ≤ q) ∧ w2 = wr) (fun a _ _ => (intOf a).toNat)
      case atStart => exact ⟨_, _, rfl, rfl, H_qs2.out, H_rs2.out, H_qe2, H_qg2, rfl⟩
      case round =>
       obtain ⟨q, rh, rfl, rfl, hq9, hrh, hqe, hqg, rfl⟩ := hrel
       by_cases hA : 4294967296 ≤ q
       · have hq1 : 1 ≤ q := by omega
         have t5 : decide ((4294967296 : Int) ≤ (q : Int)) = true := by simp; omega
         have hgr := kn_great (y0 := yn0) (u1 := un0) hqe.out H_hQ2.out.1 H_hQ2.out.2 (.inl hA)
         obtain ⟨p, hp⟩ : ∃ p, p = q - 1 := ⟨_, rfl⟩
         rw [← hp] at hgr
         have hpI : (q : Int) - 1 = (p : Int) := by omega
         have hqe2 : p * yn1 + (rh + yn1) = un21 := by
          have h1 := hqe.out
          have h2 : q = p + 1 := by omega
          rw [h2, Nat.add_mul, Nat.one_mul] at h1
          omega
         have hp9 : p ≤ 4294967296 := by omega
         have hplt : p < q := by omega
         clear hp
         obtain ⟨r2, hr2⟩ : ∃ r2, r2 = rh + yn1 := ⟨_, rfl⟩
         rw [← hr2] at hqe2
         have hr2I : (rh : Int) + (yn1 : Int) = (r2 : Int) := by omega
         have hr2b : r2 < 18446744073709551616 := by have := H_hy1.out; omega
         by_cases hC : 4294967296 ≤ r2
         · have t7 : decide ((4294967296 : Int) ≤ (r2 : Int)) = true := by simp; omega
           have hq : Q2 = p := (kn_is H_hyp.out H_eQ2.out hgr (kn_end hqe2 (kn_far H_hy0.out (by omega) hC))).symm
           subst hq
           clear hr2 hqe hqg hqe2 hgr
           go_wp2_with (fail)
           go_ret2
           exact ⟨QQ, rr, rfl, by rw [H_hfq.out]; exact H_hfin.out, H_hrr.out, by rw [H_hfq.out]; exact H_hq64.out, Keep.refl _ _⟩
         · have t7 : decide ((4294967296 : Int) ≤ (r2 : Int)) = false := by simp; omega
           have hCn : ¬ 4294967296 ≤ r2 := hC
           clear hr2
           have H_hqe2 := hid hqe2; have H_hgr := hid hgr; clear hqe2 hgr
           go_wp2_with (fail)
           go_roundw
           case rel => exact ⟨p, r2, by simp, rfl, by omega, by omega, H_hqe2, H_hgr, by first | rfl | trivial⟩
           case measure => simp [intOf] <;> omega
       · have t5 : decide ((4294967296 : Int) ≤ (q : Int)) = false := by simp; omega
         have hP9 : q * yn0 < 18446744073709551616 := by
          have : q * yn0 ≤ 4294967295 * 4294967295 := Nat.mul_le_mul (by omega) (by have := H_hy0.out; omega)
          omega
         have hPI : IntKind.u64.wrap ((q : Int) * (yn0 : Int)) = ((q * yn0 : Nat) : Int) := by
          have e : (q : Int) * (yn0 : Int) = ((q * yn0 : Nat) : Int) := by simp
          rw [e]; exact wum _ hP9
         obtain ⟨R, hR⟩ : ∃ R, R = 4294967296 * rh := ⟨_, rfl⟩
         have hRI : IntKind.u64.wrap (4294967296 * (rh : Int)) = (R : Int) := by
          have e : 4294967296 * (rh : Int) = (R : Int) := by omega
          rw [e]; exact wum _ (by omega)
         obtain ⟨S, hS⟩ : ∃ S, S = R + un0 := ⟨_, rfl⟩
         have hSI : (R : Int) + (un0 : Int) = (S : Int) := by omega
         have hS9 : S < 18446744073709551616 := by omega
         have hSw : IntKind.u64.wrap (S : Int) = (S : Int) := wum _ hS9
         obtain ⟨P, hP⟩ : ∃ P, P = q * yn0 := ⟨_, rfl⟩
         rw [← hP] at hP9 hPI
         have hAn : ¬ 4294967296 ≤ q := hA
         by_cases hB : S < P
         · have t6 : decide ((S : Int) < (P : Int)) = true := by simp; omega
           have hgr := kn_great (y0 := yn0) (u1 := un0) hqe.out H_hQ2.out.1 H_hQ2.out.2 (.inr (by rw [← hP, ← hR, ← hS]; exact hB))
           have hq1 : 1 ≤ q := by
            rcases Nat.eq_zero_or_pos q with h | h
            · rw [h, Nat.zero_mul] at hP; omega
            · exact h
           clear hP hR hS
           obtain ⟨p, hp⟩ : ∃ p, p = q - 1 := ⟨_, rfl⟩
           rw [← hp] at hgr
           have hpI : (q : Int) - 1 = (p : Int) := by omega
           have hqe2 : p * yn1 + (rh + yn1) = un21 := by
            have h1 := hqe.out
            have h2 : q = p + 1 := by omega
            rw [h2, Nat.add_mul, Nat.one_mul] at h1
            omega
           have hp9 : p ≤ 4294967296 := by omega
           have hplt : p < q := by omega
           clear hp
           obtain ⟨r2, hr2⟩ : ∃ r2, r2 = rh + yn1 := ⟨_, rfl⟩
           rw [← hr2] at hqe2
           have hr2I : (rh : Int) + (yn1 : Int) = (r2 : Int) := by omega
           have hr2b : r2 < 18446744073709551616 := by have := H_hy1.out; omega
           by_cases hC : 4294967296 ≤ r2
           · have t7 : decide ((4294967296 : Int) ≤ (r2 : Int)) = true := by simp; omega
             have hq : Q2 = p := (kn_is H_hyp.out H_eQ2.out hgr (kn_end hqe2 (kn_far H_hy0.out (by omega) hC))).symm
             subst hq
             clear hr2 hqe hqg hqe2 hgr
             go_wp2_with (fail)
             go_ret2
             exact ⟨QQ, rr, rfl, by rw [H_hfq.out]; exact H_hfin.out, H_hrr.out, by rw [H_hfq.out]; exact H_hq64.out, Keep.refl _ _⟩
           · have t7 : decide ((4294967296 : Int) ≤ (r2 : Int)) = false := by simp; omega
             have hCn : ¬ 4294967296 ≤ r2 := hC
             clear hr2
             have H_hqe2 := hid hqe2; have H_hgr := hid hgr; clear hqe2 hgr
             go_wp2_with (fail)
             go_roundw
             case rel => exact ⟨p, r2, by simp, rfl, by omega, by omega, H_hqe2, H_hgr, by first | rfl | trivial⟩
             case measure => simp [intOf] <;> omega
         · have t6 : decide ((S : Int) < (P : Int)) = false := by simp; omega
           have hq : Q2 = q := (kn_is H_hyp.out H_eQ2.out hqg.out (kn_end hqe.out (by rw [← hP, ← hR, ← hS]; omega))).symm
           subst hq
           clear hP hR hS hqe hqg
           go_wp2_with (fail)
           go_ret2
           exact ⟨QQ, rr, rfl, by rw [H_hfq.out]; exact H_hfin.out, H_hrr.out, by rw [H_hfq.out]; exact H_hq64.out, Keep.refl _ _⟩

theorem bitsDiv64_any (hi lo y : Nat) (w : World) (hhi : hi < y) (hlo : lo < 18446744073709551616) (hy : y < 18446744073709551616) (hn : hi = 0 ∨ 9223372036854775808 ≤ y) :
 Calls Tryz.prog 231 #[.int .u64 hi, .int .u64 lo, .int .u64 y] w (DivRet w hi lo y) := by
 rcases Nat.eq_zero_or_pos hi with h | h
 · subst h
   exact bitsDiv64_zero lo y w hlo hy hhi
 · exact bitsDiv64_norm hi lo y _ _ _ _ w hhi h hlo hy (by omega) rfl rfl rfl rfl

theorem bitsDiv_any (hi lo y : Nat) (w : World) (hhi : hi < y) (hlo : lo < 18446744073709551616) (hy : y < 18446744073709551616) (hn : hi = 0 ∨ 9223372036854775808 ≤ y) :
 Calls Tryz.prog 208 #[.int .u64 hi, .int .u64 lo, .int .u64 y] w (DivRet w hi lo y) := by
 have hc := bitsDiv64_any hi lo y w hhi hlo hy hn
 have H_hc := hid hc; clear hc
 go_enter Tryz.func208, Tryz.ntmps208
 go_wp2_with (fail)
 refine H_hc.out.mono ?_
 rintro e w2 ⟨q, r, rfl, h1, h2, h3, h4⟩
 have H_h1 := hid h1; have H_h2 := hid h2; have H_h3 := hid h3; have H_h4 := hid h4; clear h1 h2 h3 h4
 go_wp2_with (fail)
 go_ret2
 exact ⟨q, r, rfl, H_h1.out, H_h2.out, H_h3.out, H_h4.out⟩

end Go.Proofs.YtllencgncinphaaGreatDoor
