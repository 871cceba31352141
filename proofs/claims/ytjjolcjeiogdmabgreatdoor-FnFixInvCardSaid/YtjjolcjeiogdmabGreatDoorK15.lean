/- big: reciprocalWord, divWW. -/
import Derived.Laws.BitsAllLaws
import Derived.Test.YtjjolcjeiogdmabGreatDoorK3
import Derived.Test.YtjjolcjeiogdmabGreatDoorK14
namespace Go.Proofs.YtjjolcjeiogdmabGreatDoor
open Go.RowKit

theorem xor_ones (u : Nat) (h : u < 18446744073709551616) : 18446744073709551615 ^^^ u = 18446744073709551615 - u := by
  have h1 : (BitVec.allOnes 64 ^^^ BitVec.ofNat 64 u).toNat = 18446744073709551615 ^^^ u := by
    rw [BitVec.toNat_xor, BitVec.toNat_allOnes, BitVec.toNat_ofNat, Nat.mod_eq_of_lt (by omega)]
  rw [← h1, BitVec.allOnes_xor, BitVec.toNat_not, BitVec.toNat_ofNat, Nat.mod_eq_of_lt (by omega)]

theorem lead_unique {y s t : Nat} (h : Lead y s) (k : Lead y t) : s = t := by
  have one : ∀ {s t}, Lead y s → Lead y t → ¬ s < t := fun {s t} h k hlt => by
    have h1 : 2 ^ t = 2 ^ s * 2 ^ (t - s) := by rw [← Nat.pow_add]; congr 1; omega
    have h2 : 2 ^ 1 ≤ 2 ^ (t - s) := Nat.pow_le_pow_right (by omega) (by omega)
    have h3 := k.2.2
    rw [h1, ← Nat.mul_assoc] at h3
    have h4 := Nat.mul_le_mul h.2.1 h2
    omega
  have h1 := one h k
  have h2 := one k h
  omega

/-- m is the reciprocal of the word y, shifted so that it begins with a 1 -/
def Recip (y m : Nat) : Prop := ∃ s k, Lead y s ∧ (m + 18446744073709551616) * (y * 2 ^ s) + k = 18446744073709551616 * 18446744073709551616 ∧ 0 < k ∧ k ≤ y * 2 ^ s ∧ m < 18446744073709551616

theorem recip_eq {B u q r : Nat} (hB : 0 < B) (hu : u ≤ B - 1) (h : (B - 1 - u) * B + (B - 1) = q * u + r) : (q + B) * u + (r + 1) = B * B := by
  obtain ⟨m, hm⟩ : ∃ m, B - 1 = u + m := ⟨B - 1 - u, by omega⟩
  have hB1 : B = u + m + 1 := by omega
  rw [show B - 1 - u = m by omega, hm] at h
  subst hB1
  rw [Nat.add_mul]
  have e1 : (u + m + 1) * u = u * u + m * u + u := by grind
  have e2 : (u + m + 1) * (u + m + 1) = u * u + m * m + 2 * (m * u) + 2 * u + 2 * m + 1 := by grind
  have e3 : m * (u + m + 1) = m * u + m * m + m := by grind
  omega

set_option maxRecDepth 20000 in
set_option maxHeartbeats 2000000 in
theorem reciprocalWord_any (y : Nat) (w : World) (hy : y < 18446744073709551616) (h0 : 0 < y) :
    Calls Tryz.prog 167 #[.int .u64 y] w (fun e w' => ∃ m : Nat, e = .returned (.int .u64 m) ∧ Recip y m ∧ Fresh w w') := by
  have hlz := fun W => nlz_any y W hy h0
  have H_hlz := Lib.hid hlz; clear hlz
  go_enter Tryz.func167, Tryz.ntmps167
  go_wp2_with (fail)
  refine (H_hlz.out _).mono ?_
  rintro e w2 ⟨s, rfl, hl, hs⟩
  subst hs
  have hs64 := hl.1
  have hI : (s : Int) < 64 := by omega
  obtain ⟨u, hu⟩ : ∃ u, u = y * 2 ^ s := ⟨_, rfl⟩
  have hu1 : 9223372036854775808 ≤ u := by rw [hu]; exact hl.2.1
  have hu2 : u < 18446744073709551616 := by rw [hu]; exact hl.2.2
  have hsh : IntKind.u64.wrap ((y : Int) * 2 ^ s) = (u : Int) := by
    rw [show (y : Int) * 2 ^ s = ((y * 2 ^ s : Nat) : Int) from by simp, ← hu]; exact wrap_u64m _ hu2
  obtain ⟨v, hv⟩ : ∃ v, v = 18446744073709551615 - u := ⟨_, rfl⟩
  have hx : bits BinOp.xor IntKind.u64 IntKind.u64.max (u : Int) = (v : Int) := by
    have e : IntKind.u64.max = ((18446744073709551615 : Nat) : Int) := by decide
    rw [e, u64_xor_nat _ _ (by omega) hu2, xor_ones u hu2, hv]
  have hdiv := fun W => bitsDiv_any v 18446744073709551615 u W (by omega) (by omega) hu2 (.inr hu1)
  have H_hl := Lib.hid hl; clear hl
  have H_hdiv := Lib.hid hdiv; clear hdiv
  have H_hu := Lib.hid hu; clear hu
  have H_hv := Lib.hid hv; clear hv
  go_wp2_with (fail)
  refine (H_hdiv.out _).mono ?_
  rintro e w3 ⟨q, r, rfl, h1, h2, h3, h4⟩
  have H_h1 := Lib.hid h1; clear h1
  have H_h2 := Lib.hid h2; clear h2
  have H_h3 := Lib.hid h3; clear h3
  have H_h4 := Lib.hid h4; clear h4
  go_wp2_with (fail)
  go_ret
  refine ⟨q, rfl, ⟨s, r + 1, H_hl.out, ?_, by omega, by rw [← H_hu.out]; exact H_h2.out, H_h3.out⟩, H_h4.out⟩
  rw [← H_hu.out]
  refine recip_eq (by omega) (by omega) ?_
  have e := H_h1.out
  rw [H_hv.out] at e
  exact e

/-- the two words shifted -/
theorem shift_words {x1 x0 y s : Nat} (hx1 : x1 < y) (hx0 : x0 < 18446744073709551616) (hl : Lead y s) :
    (x1 * 2 ^ s + x0 / 2 ^ (64 - s)) * 18446744073709551616 + x0 * 2 ^ s % 18446744073709551616 = (x1 * 18446744073709551616 + x0) * 2 ^ s ∧ x0 / 2 ^ (64 - s) < 2 ^ s ∧ x1 * 2 ^ s + x0 / 2 ^ (64 - s) < y * 2 ^ s := by
  have hs := hl.1
  have e : 2 ^ (64 - s) * 2 ^ s = 18446744073709551616 := by rw [← Nat.pow_add, show 64 - s + s = 64 by omega]
  have p1 : 0 < 2 ^ (64 - s) := Nat.pow_pos (by omega)
  have p2 : 0 < 2 ^ s := Nat.pow_pos (by omega)
  have hd := Nat.div_add_mod x0 (2 ^ (64 - s))
  have hm := Nat.mod_lt x0 p1
  have hlt : x0 / 2 ^ (64 - s) < 2 ^ s := by
    rw [Nat.div_lt_iff_lt_mul p1, Nat.mul_comm, e]; exact hx0
  generalize x0 / 2 ^ (64 - s) = h at *
  generalize x0 % 2 ^ (64 - s) = l at *
  generalize 2 ^ (64 - s) = c at *
  generalize 2 ^ s = b at *
  have hx : x0 * b = h * 18446744073709551616 + l * b := by
    rw [← hd, ← e, Nat.add_mul]
    congr 1
    rw [Nat.mul_comm c h, Nat.mul_assoc]
  have hlb : l * b < 18446744073709551616 := by
    rw [← e]; exact Nat.mul_lt_mul_of_pos_right hm p2
  have hmod : x0 * b % 18446744073709551616 = l * b := by
    rw [hx, Nat.add_comm, Nat.add_mul_mod_self_right, Nat.mod_eq_of_lt hlb]
  refine ⟨?_, hlt, ?_⟩
  · rw [hmod, Nat.add_mul, Nat.add_mul, hx, Nat.mul_right_comm]
    omega
  · have := Nat.mul_le_mul_right b hx1
    rw [Nat.succ_mul] at this
    omega

/-- what the sums of words come to: the guess -/
theorem guess_words {m X1 X0 : Nat} (hX1 : X1 < 18446744073709551616) (hX0 : X0 < 18446744073709551616) (_hm : m < 18446744073709551616) (hV : ((m + 18446744073709551616) * X1 + X0) / 18446744073709551616 < 18446744073709551616) :
    addS (mulH m X1) X1 (addC (mulL m X1) X0 0) = ((m + 18446744073709551616) * X1 + X0) / 18446744073709551616 := by
  unfold addS addC mulH mulL at *
  rw [Nat.add_mul] at *
  generalize m * X1 = p at *
  omega

theorem diff_words {d q X1 X0 r : Nat} (_hX1 : X1 < 18446744073709551616) (hX0 : X0 < 18446744073709551616) (h : X1 * 18446744073709551616 + X0 = d * q + r) (hr : r < 18446744073709551616 + 18446744073709551616) :
    subS X0 (mulL d q) 0 = r % 18446744073709551616 ∧ subS X1 (mulH d q) (subC X0 (mulL d q) 0) = r / 18446744073709551616 := by
  unfold subS subC mulH mulL
  generalize d * q = p at *
  constructor
  · omega
  · split <;> omega

set_option maxRecDepth 200000 in
set_option maxHeartbeats 8000000 in
theorem divWW_zero (x1 x0 y m s : Nat) (w : World) (hx1 : x1 < y) (hx0 : x0 < 18446744073709551616) (hy : y < 18446744073709551616) (hl : Lead y s) (hm : m < 18446744073709551616) (k : Nat) (hk : (m + 18446744073709551616) * (y * 2 ^ s) + k = 18446744073709551616 * 18446744073709551616) (hk1 : k ≤ y * 2 ^ s) (hs0 : s = 0) :
    Calls Tryz.prog 168 #[.int .u64 x1, .int .u64 x0, .int .u64 y, .int .u64 m] w (DivRet w x1 x0 y) := by
  have hlz := fun W => nlz_any y W hy (by omega)
  have hs64 := hl.1
  obtain ⟨e1, e2, e3⟩ := shift_words hx1 hx0 hl
  obtain ⟨d, hd⟩ : ∃ d, d = y * 2 ^ s := ⟨_, rfl⟩
  have hd1 : 9223372036854775808 ≤ d := by rw [hd]; exact hl.2.1
  have hd2 : d < 18446744073709551616 := by rw [hd]; exact hl.2.2
  obtain ⟨X1, hX1⟩ : ∃ x, x = x1 * 2 ^ s + x0 / 2 ^ (64 - s) := ⟨_, rfl⟩
  obtain ⟨X0, hX0⟩ : ∃ x, x = x0 * 2 ^ s % 18446744073709551616 := ⟨_, rfl⟩
  rw [← hd] at hk hk1 e3
  rw [← hX1] at e1 e3
  have e1' := e1
  rw [← hX0] at e1
  have hX064 : X0 < 18446744073709551616 := by rw [hX0]; exact Nat.mod_lt _ (by omega)
  -- the guess and what is left
  obtain ⟨q, hq⟩ : ∃ q, q = ((m + 18446744073709551616) * X1 + X0) / 18446744073709551616 := ⟨_, rfl⟩
  obtain ⟨f, hf⟩ : ∃ f, f = ((m + 18446744073709551616) * X1 + X0) % 18446744073709551616 := ⟨_, rfl⟩
  have hqf : q * 18446744073709551616 + f = (m + 18446744073709551616) * X1 + X0 := by
    rw [hq, hf, Nat.mul_comm]; exact Nat.div_add_mod _ _
  have hf1 : f < 18446744073709551616 := by rw [hf]; exact Nat.mod_lt _ (by omega)
  obtain ⟨b1, b2⟩ := mg_bound hk hk1 (Nat.le_of_lt hd2) (by omega) e3 hX064 hqf hf1
  obtain ⟨r, hr⟩ := Nat.exists_eq_add_of_le b1
  have hrb : r < 18446744073709551616 + d := by omega
  have hX164 : X1 < 18446744073709551616 := by omega
  have hq64 : q < 18446744073709551616 := by
    rcases Nat.lt_or_ge q 18446744073709551616 with h | h
    · exact h
    · exfalso
      have h1 : d * 18446744073709551616 ≤ d * q := Nat.mul_le_mul_left _ h
      have h2 : (X1 + 1) * 18446744073709551616 ≤ d * 18446744073709551616 := Nat.mul_le_mul_right _ e3
      omega
  have hgw := guess_words hX164 hX064 hm (by rw [← hq]; exact hq64)
  rw [← hq] at hgw
  obtain ⟨hdw0, hdw1⟩ := diff_words hX164 hX064 hr (by omega)
  have hmul1 := fun W => bits_Mul m X1 hm hX164 W
  have hadd1 := fun W => bits_Add (mulL m X1) X0 0 (by omega) W
  have hadd2 := fun W => bits_Add (mulH m X1) X1 (addC (mulL m X1) X0 0) (by unfold addC mulL; omega) W
  have hmul2 := fun W => bits_Mul d q hd2 hq64 W
  have hsub1 := fun W => bits_Sub X0 (mulL d q) 0 (by omega) W
  have hsub2 := fun W => bits_Sub X1 (mulH d q) (subC X0 (mulL d q) 0) (by unfold subC; split <;> omega) W
  rw [hgw] at hadd2
  rw [hdw0] at hsub1
  rw [hdw1] at hsub2
  obtain ⟨q', r', q'', r'', c1, c2, c3, c4, c5⟩ := mg_fix hr hrb (by omega) (Nat.le_of_lt hd2) (by omega)
  obtain ⟨f1, f2⟩ := scaled_div (a := x1 * 18446744073709551616 + x0) (b := y) (t := 2 ^ s) (q := q'') (r := r'') (by rw [← e1, ← hd]; exact c4) (by rw [← hd]; exact c5) (Nat.pow_pos (by omega))
  have hq2 : q'' < 18446744073709551616 := by
    rcases Nat.lt_or_ge q'' 18446744073709551616 with h | h
    · exact h
    · exfalso
      have h1 : d * 18446744073709551616 ≤ d * q'' := Nat.mul_le_mul_left _ h
      have h2 : (X1 + 1) * 18446744073709551616 ≤ d * 18446744073709551616 := Nat.mul_le_mul_right _ e3
      omega
  obtain ⟨rr, hrr⟩ : ∃ x, x = r'' / 2 ^ s := ⟨_, rfl⟩
  rw [← hrr] at f1 f2
  have hrI : (r'' : Int) / 2 ^ s = (rr : Int) := by rw [hrr]; simp
  have hfin : x1 * 18446744073709551616 + x0 = q'' * y + rr := by rw [Nat.mul_comm q'' y]; exact f1
  -- the words of the first remainder
  obtain ⟨r0, hr0⟩ : ∃ x, x = r % 18446744073709551616 := ⟨_, rfl⟩
  obtain ⟨r1, hr1⟩ : ∃ x, x = r / 18446744073709551616 := ⟨_, rfl⟩
  rw [← hr0] at hsub1
  rw [← hr1] at hsub2
  have hdy : d = y := by rw [hd, hs0]; simp
  have hXx : X1 = x1 := by rw [hX1, hs0]; simp; omega
  have hX0x : X0 = x0 := by rw [hX0, hs0]; simp; omega
  obtain rfl : r'' = rr := by rw [hrr, hs0]; simp
  subst hdy hXx hX0x
  clear hk hk1 e1 e1' e2 b1 b2 hqf hf1 hf hq hgw hdw0 hdw1 f1 hr hrr 
  have H_hlz := Lib.hid hlz; clear hlz
  have H_hl := Lib.hid hl; clear hl
  have H_hmul1 := Lib.hid hmul1; clear hmul1
  have H_hadd1 := Lib.hid hadd1; clear hadd1
  have H_hadd2 := Lib.hid hadd2; clear hadd2
  have H_hmul2 := Lib.hid hmul2; clear hmul2
  have H_hsub1 := Lib.hid hsub1; clear hsub1
  have H_hsub2 := Lib.hid hsub2; clear hsub2
  have H_c4 := Lib.hid c4; clear c4
  have H_hfin := Lib.hid hfin; clear hfin
  have H_hX1 := Lib.hid hX1; clear hX1
  have H_hX0 := Lib.hid hX0; clear hX0
  have H_hd := Lib.hid hd; clear hd
  have H_hr0 := Lib.hid hr0; clear hr0
  have H_hr1 := Lib.hid hr1; clear hr1
  go_enter Tryz.func168, Tryz.ntmps168
  go_wp2_with (fail)
  refine (H_hlz.out _).mono ?_
  rintro e w2 ⟨s', rfl, hl', hs⟩
  subst hs
  obtain rfl := lead_unique H_hl.out hl'
  clear hl'
  subst hs0
  go_wp2_with (fail)
  refine (H_hmul1.out _).mono ?_
  rintro e w3 ⟨rfl, hs⟩
  subst hs
  go_wp2_with (fail)
  refine (H_hadd1.out _).mono ?_
  rintro e w3 ⟨rfl, hs⟩
  subst hs
  go_wp2_with (fail)
  refine (H_hadd2.out _).mono ?_
  rintro e w3 ⟨rfl, hs⟩
  subst hs
  go_wp2_with (fail)
  refine (H_hmul2.out _).mono ?_
  rintro e w3 ⟨rfl, hs⟩
  subst hs
  go_wp2_with (fail)
  refine (H_hsub1.out _).mono ?_
  rintro e w3 ⟨rfl, hs⟩
  subst hs
  go_wp2_with (fail)
  refine (H_hsub2.out _).mono ?_
  rintro e w3 ⟨rfl, hs⟩
  subst hs
  have hr0 := H_hr0.out
  have hr1 := H_hr1.out
  rcases c1 with ⟨g0, gq0, gr0⟩ | ⟨g0, gq0, gr0⟩
  · have w1 : r1 = 1 := by omega
    have w3 : IntKind.u64.wrap ((r0 : Int) - (d : Int)) = (r' : Int) := by rw [wrap_u64_int]; omega
    have w4 : (q : Int) + 1 = (q' : Int) := by omega
    have hqa9 : q' < 18446744073709551616 := by rcases c3 with ⟨_, h, _⟩ | ⟨_, h, _⟩ <;> omega
    have w5 : IntKind.u64.wrap (q' : Int) = (q' : Int) := wrap_u64m _ hqa9
    subst w1
    clear hr0 hr1 gq0 gr0
    rcases c3 with ⟨g1, gq, gr⟩ | ⟨g1, gq, gr⟩
    · have u1 : decide ((d : Int) ≤ (r' : Int)) = true := by simp; omega
      have u2 : (r' : Int) - (d : Int) = (r'' : Int) := by omega
      have u3 : IntKind.u64.wrap (r'' : Int) = (r'' : Int) := wrap_u64m _ (by omega)
      have u4 : (q' : Int) + 1 = (q'' : Int) := by omega
      have u5 : IntKind.u64.wrap (q'' : Int) = (q'' : Int) := wrap_u64m _ hq2
      clear gq gr
      go_wp2_with (fail)
      go_ret2
      exact ⟨q'', _, rfl, H_hfin.out, f2, hq2, Keep.refl _ _⟩
    · have u1 : decide ((d : Int) ≤ (r' : Int)) = false := by simp; omega
      have u1n : ¬ d ≤ r' := by omega
      subst gq gr
      go_wp2_with (fail)
      go_ret2
      exact ⟨_, _, rfl, H_hfin.out, f2, hq2, Keep.refl _ _⟩
  · have w1 : r1 = 0 := by omega
    obtain rfl : r' = r0 := by omega
    obtain rfl : q' = q := by omega
    subst w1
    clear hr0 hr1 gr0
    rcases c3 with ⟨g1, gq, gr⟩ | ⟨g1, gq, gr⟩
    · have u1 : decide ((d : Int) ≤ (r' : Int)) = true := by simp; omega
      have u2 : (r' : Int) - (d : Int) = (r'' : Int) := by omega
      have u3 : IntKind.u64.wrap (r'' : Int) = (r'' : Int) := wrap_u64m _ (by omega)
      have u4 : (q' : Int) + 1 = (q'' : Int) := by omega
      have u5 : IntKind.u64.wrap (q'' : Int) = (q'' : Int) := wrap_u64m _ hq2
      clear gq gr
      go_wp2_with (fail)
      go_ret2
      exact ⟨q'', _, rfl, H_hfin.out, f2, hq2, Keep.refl _ _⟩
    · have u1 : decide ((d : Int) ≤ (r' : Int)) = false := by simp; omega
      have u1n : ¬ d ≤ r' := by omega
      subst gq gr
      go_wp2_with (fail)
      go_ret2
      exact ⟨_, _, rfl, H_hfin.out, f2, hq2, Keep.refl _ _⟩

set_option maxRecDepth 200000 in
set_option maxHeartbeats 8000000 in
theorem divWW_shift (x1 x0 y m s : Nat) (w : World) (hx1 : x1 < y) (hx0 : x0 < 18446744073709551616) (hy : y < 18446744073709551616) (hl : Lead y s) (hm : m < 18446744073709551616) (k : Nat) (hk : (m + 18446744073709551616) * (y * 2 ^ s) + k = 18446744073709551616 * 18446744073709551616) (hk1 : k ≤ y * 2 ^ s) (hs0 : 0 < s) :
    Calls Tryz.prog 168 #[.int .u64 x1, .int .u64 x0, .int .u64 y, .int .u64 m] w (DivRet w x1 x0 y) := by
  have hlz := fun W => nlz_any y W hy (by omega)
  have hs64 := hl.1
  obtain ⟨e1, e2, e3⟩ := shift_words hx1 hx0 hl
  obtain ⟨d, hd⟩ : ∃ d, d = y * 2 ^ s := ⟨_, rfl⟩
  have hd1 : 9223372036854775808 ≤ d := by rw [hd]; exact hl.2.1
  have hd2 : d < 18446744073709551616 := by rw [hd]; exact hl.2.2
  obtain ⟨X1, hX1⟩ : ∃ x, x = x1 * 2 ^ s + x0 / 2 ^ (64 - s) := ⟨_, rfl⟩
  obtain ⟨X0, hX0⟩ : ∃ x, x = x0 * 2 ^ s % 18446744073709551616 := ⟨_, rfl⟩
  rw [← hd] at hk hk1 e3
  rw [← hX1] at e1 e3
  have e1' := e1
  rw [← hX0] at e1
  have hX064 : X0 < 18446744073709551616 := by rw [hX0]; exact Nat.mod_lt _ (by omega)
  -- the guess and what is left
  obtain ⟨q, hq⟩ : ∃ q, q = ((m + 18446744073709551616) * X1 + X0) / 18446744073709551616 := ⟨_, rfl⟩
  obtain ⟨f, hf⟩ : ∃ f, f = ((m + 18446744073709551616) * X1 + X0) % 18446744073709551616 := ⟨_, rfl⟩
  have hqf : q * 18446744073709551616 + f = (m + 18446744073709551616) * X1 + X0 := by
    rw [hq, hf, Nat.mul_comm]; exact Nat.div_add_mod _ _
  have hf1 : f < 18446744073709551616 := by rw [hf]; exact Nat.mod_lt _ (by omega)
  obtain ⟨b1, b2⟩ := mg_bound hk hk1 (Nat.le_of_lt hd2) (by omega) e3 hX064 hqf hf1
  obtain ⟨r, hr⟩ := Nat.exists_eq_add_of_le b1
  have hrb : r < 18446744073709551616 + d := by omega
  have hX164 : X1 < 18446744073709551616 := by omega
  have hq64 : q < 18446744073709551616 := by
    rcases Nat.lt_or_ge q 18446744073709551616 with h | h
    · exact h
    · exfalso
      have h1 : d * 18446744073709551616 ≤ d * q := Nat.mul_le_mul_left _ h
      have h2 : (X1 + 1) * 18446744073709551616 ≤ d * 18446744073709551616 := Nat.mul_le_mul_right _ e3
      omega
  have hgw := guess_words hX164 hX064 hm (by rw [← hq]; exact hq64)
  rw [← hq] at hgw
  obtain ⟨hdw0, hdw1⟩ := diff_words hX164 hX064 hr (by omega)
  have hmul1 := fun W => bits_Mul m X1 hm hX164 W
  have hadd1 := fun W => bits_Add (mulL m X1) X0 0 (by omega) W
  have hadd2 := fun W => bits_Add (mulH m X1) X1 (addC (mulL m X1) X0 0) (by unfold addC mulL; omega) W
  have hmul2 := fun W => bits_Mul d q hd2 hq64 W
  have hsub1 := fun W => bits_Sub X0 (mulL d q) 0 (by omega) W
  have hsub2 := fun W => bits_Sub X1 (mulH d q) (subC X0 (mulL d q) 0) (by unfold subC; split <;> omega) W
  rw [hgw] at hadd2
  rw [hdw0] at hsub1
  rw [hdw1] at hsub2
  obtain ⟨q', r', q'', r'', c1, c2, c3, c4, c5⟩ := mg_fix hr hrb (by omega) (Nat.le_of_lt hd2) (by omega)
  obtain ⟨f1, f2⟩ := scaled_div (a := x1 * 18446744073709551616 + x0) (b := y) (t := 2 ^ s) (q := q'') (r := r'') (by rw [← e1, ← hd]; exact c4) (by rw [← hd]; exact c5) (Nat.pow_pos (by omega))
  have hq2 : q'' < 18446744073709551616 := by
    rcases Nat.lt_or_ge q'' 18446744073709551616 with h | h
    · exact h
    · exfalso
      have h1 : d * 18446744073709551616 ≤ d * q'' := Nat.mul_le_mul_left _ h
      have h2 : (X1 + 1) * 18446744073709551616 ≤ d * 18446744073709551616 := Nat.mul_le_mul_right _ e3
      omega
  obtain ⟨rr, hrr⟩ : ∃ x, x = r'' / 2 ^ s := ⟨_, rfl⟩
  rw [← hrr] at f1 f2
  have hrI : (r'' : Int) / 2 ^ s = (rr : Int) := by rw [hrr]; simp
  have hfin : x1 * 18446744073709551616 + x0 = q'' * y + rr := by rw [Nat.mul_comm q'' y]; exact f1
  -- the words of the first remainder
  obtain ⟨r0, hr0⟩ : ∃ x, x = r % 18446744073709551616 := ⟨_, rfl⟩
  obtain ⟨r1, hr1⟩ : ∃ x, x = r / 18446744073709551616 := ⟨_, rfl⟩
  rw [← hr0] at hsub1
  rw [← hr1] at hsub2
  have hsN : ¬ s = 0 := by omega
  have t0 : ((s : Int) != 0) = true := by simp; omega
  obtain ⟨h1, hh1⟩ : ∃ x, x = x1 * 2 ^ s := ⟨_, rfl⟩
  obtain ⟨h2, hh2⟩ : ∃ x, x = x0 / 2 ^ (64 - s) := ⟨_, rfl⟩
  have v1 : IntKind.u64.wrap ((x1 : Int) * 2 ^ s) = (h1 : Int) := by
    rw [show (x1 : Int) * 2 ^ s = ((x1 * 2 ^ s : Nat) : Int) from by simp, ← hh1]; exact wrap_u64m _ (by omega)
  obtain ⟨k1, hk1'⟩ : ∃ k, k = 64 - s := ⟨_, rfl⟩
  have v2 : (64 : Int) - (s : Int) = (k1 : Int) := by omega
  have v3 : (x0 : Int) / 2 ^ k1 = (h2 : Int) := by rw [hh2, hk1']; simp
  have v4 : bits BinOp.or IntKind.u64 (h1 : Int) (h2 : Int) = (X1 : Int) := by
    rw [bits_or_u64_nat _ _ (by omega) (by omega)]
    have := Nat.shiftLeft_add_eq_or_of_lt (i := s) (b := h2) (by rw [hh2]; exact e2) x1
    rw [Nat.shiftLeft_eq, ← hh1] at this
    rw [← this, hX1, ← hh1, ← hh2]
  have v5 : IntKind.u64.wrap ((x0 : Int) * 2 ^ s) = (X0 : Int) := by
    rw [show (x0 : Int) * 2 ^ s = ((x0 * 2 ^ s : Nat) : Int) from by simp, wrap_u64_mod, hX0]
  have v6 : IntKind.u64.wrap ((y : Int) * 2 ^ s) = (d : Int) := by
    rw [show (y : Int) * 2 ^ s = ((y * 2 ^ s : Nat) : Int) from by simp, ← hd]; exact wrap_u64m _ hd2
  have hk64 : (k1 : Int) < 64 := by omega
  clear hh1 hh2 hk1'
  clear hk hk1 e1 e1' e2 b1 b2 hqf hf1 hf hq hgw hdw0 hdw1 f1 hr hrr 
  have H_hlz := Lib.hid hlz; clear hlz
  have H_hl := Lib.hid hl; clear hl
  have H_hmul1 := Lib.hid hmul1; clear hmul1
  have H_hadd1 := Lib.hid hadd1; clear hadd1
  have H_hadd2 := Lib.hid hadd2; clear hadd2
  have H_hmul2 := Lib.hid hmul2; clear hmul2
  have H_hsub1 := Lib.hid hsub1; clear hsub1
  have H_hsub2 := Lib.hid hsub2; clear hsub2
  have H_c4 := Lib.hid c4; clear c4
  have H_hfin := Lib.hid hfin; clear hfin
  have H_hX1 := Lib.hid hX1; clear hX1
  have H_hX0 := Lib.hid hX0; clear hX0
  have H_hd := Lib.hid hd; clear hd
  have H_hr0 := Lib.hid hr0; clear hr0
  have H_hr1 := Lib.hid hr1; clear hr1
  go_enter Tryz.func168, Tryz.ntmps168
  go_wp2_with (fail)
  refine (H_hlz.out _).mono ?_
  rintro e w2 ⟨s', rfl, hl', hs⟩
  subst hs
  obtain rfl := lead_unique H_hl.out hl'
  clear hl'
  go_wp2_with (fail)
  refine (H_hmul1.out _).mono ?_
  rintro e w3 ⟨rfl, hs⟩
  subst hs
  go_wp2_with (fail)
  refine (H_hadd1.out _).mono ?_
  rintro e w3 ⟨rfl, hs⟩
  subst hs
  go_wp2_with (fail)
  refine (H_hadd2.out _).mono ?_
  rintro e w3 ⟨rfl, hs⟩
  subst hs
  go_wp2_with (fail)
  refine (H_hmul2.out _).mono ?_
  rintro e w3 ⟨rfl, hs⟩
  subst hs
  go_wp2_with (fail)
  refine (H_hsub1.out _).mono ?_
  rintro e w3 ⟨rfl, hs⟩
  subst hs
  go_wp2_with (fail)
  refine (H_hsub2.out _).mono ?_
  rintro e w3 ⟨rfl, hs⟩
  subst hs
  have hr0 := H_hr0.out
  have hr1 := H_hr1.out
  rcases c1 with ⟨g0, gq0, gr0⟩ | ⟨g0, gq0, gr0⟩
  · have w1 : r1 = 1 := by omega
    have w3 : IntKind.u64.wrap ((r0 : Int) - (d : Int)) = (r' : Int) := by rw [wrap_u64_int]; omega
    have w4 : (q : Int) + 1 = (q' : Int) := by omega
    have hqa9 : q' < 18446744073709551616 := by rcases c3 with ⟨_, h, _⟩ | ⟨_, h, _⟩ <;> omega
    have w5 : IntKind.u64.wrap (q' : Int) = (q' : Int) := wrap_u64m _ hqa9
    subst w1
    clear hr0 hr1 gq0 gr0
    rcases c3 with ⟨g1, gq, gr⟩ | ⟨g1, gq, gr⟩
    · have u1 : decide ((d : Int) ≤ (r' : Int)) = true := by simp; omega
      have u2 : (r' : Int) - (d : Int) = (r'' : Int) := by omega
      have u3 : IntKind.u64.wrap (r'' : Int) = (r'' : Int) := wrap_u64m _ (by omega)
      have u4 : (q' : Int) + 1 = (q'' : Int) := by omega
      have u5 : IntKind.u64.wrap (q'' : Int) = (q'' : Int) := wrap_u64m _ hq2
      clear gq gr
      go_wp2_with (fail)
      go_ret2
      exact ⟨q'', _, rfl, H_hfin.out, f2, hq2, Keep.refl _ _⟩
    · have u1 : decide ((d : Int) ≤ (r' : Int)) = false := by simp; omega
      have u1n : ¬ d ≤ r' := by omega
      subst gq gr
      go_wp2_with (fail)
      go_ret2
      exact ⟨_, _, rfl, H_hfin.out, f2, hq2, Keep.refl _ _⟩
  · have w1 : r1 = 0 := by omega
    obtain rfl : r' = r0 := by omega
    obtain rfl : q' = q := by omega
    subst w1
    clear hr0 hr1 gr0
    rcases c3 with ⟨g1, gq, gr⟩ | ⟨g1, gq, gr⟩
    · have u1 : decide ((d : Int) ≤ (r' : Int)) = true := by simp; omega
      have u2 : (r' : Int) - (d : Int) = (r'' : Int) := by omega
      have u3 : IntKind.u64.wrap (r'' : Int) = (r'' : Int) := wrap_u64m _ (by omega)
      have u4 : (q' : Int) + 1 = (q'' : Int) := by omega
      have u5 : IntKind.u64.wrap (q'' : Int) = (q'' : Int) := wrap_u64m _ hq2
      clear gq gr
      go_wp2_with (fail)
      go_ret2
      exact ⟨q'', _, rfl, H_hfin.out, f2, hq2, Keep.refl _ _⟩
    · have u1 : decide ((d : Int) ≤ (r' : Int)) = false := by simp; omega
      have u1n : ¬ d ≤ r' := by omega
      subst gq gr
      go_wp2_with (fail)
      go_ret2
      exact ⟨_, _, rfl, H_hfin.out, f2, hq2, Keep.refl _ _⟩

theorem divWW_any (x1 x0 y m : Nat) (w : World) (hx1 : x1 < y) (hx0 : x0 < 18446744073709551616) (hy : y < 18446744073709551616) (hm : Recip y m) :
    Calls Tryz.prog 168 #[.int .u64 x1, .int .u64 x0, .int .u64 y, .int .u64 m] w (DivRet w x1 x0 y) := by
  obtain ⟨s, k, hl, hk, _, hk1, hm1⟩ := hm
  rcases Nat.eq_zero_or_pos s with h | h
  · exact divWW_zero x1 x0 y m s w hx1 hx0 hy hl hm1 k hk hk1 h
  · exact divWW_shift x1 x0 y m s w hx1 hx0 hy hl hm1 k hk hk1 h

end Go.Proofs.YtjjolcjeiogdmabGreatDoor
