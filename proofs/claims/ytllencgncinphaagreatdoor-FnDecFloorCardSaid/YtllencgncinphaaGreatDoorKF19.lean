/- The contract of the reference's fractions: Inverse. -/
import Derived.Test.YtllencgncinphaaGreatDoorKF11
import Derived.Test.YtllencgncinphaaGreatDoorKF15
import Derived.Test.YtllencgncinphaaGreatDoorKF16
import Derived.Test.YtllencgncinphaaGreatDoorKF18
namespace Go.Proofs.YtllencgncinphaaGreatDoor
open Go.RowKit
open Go.Lib (hid)



theorem rounds_fl (neg : Bool) (z : Int) (odd : Bool) (w : World) : Calls Tryz.prog 52 #[.int .i64 2, .bool neg, .int .i64 z, .bool odd] w (fun e w' => e = .returned (.bool neg) ∧ w' = w) := by
 go_enter Tryz.func52, Tryz.ntmps52
 go_wp2
 go_ret
 exact ⟨rfl, rfl⟩

theorem rounds_ce (neg : Bool) (z : Int) (odd : Bool) (w : World) : Calls Tryz.prog 52 #[.int .i64 3, .bool neg, .int .i64 z, .bool odd] w (fun e w' => e = .returned (.bool (!neg)) ∧ w' = w) := by
 go_enter Tryz.func52, Tryz.ntmps52
 go_wp2
 go_ret
 exact ⟨rfl, rfl⟩

theorem DecFracI_any (x : Value) (z m : Int) (w : World) (hx : RdI w x z m) (hz : z.natAbs < spow 900) (hm : -1000 ≤ m ∧ m ≤ 1000) :
 Calls Tryz.prog 18 #[x] w (FRet w (dnum z m) (dden m)) := by
 obtain ⟨nb, v, l, rfl, h1, h2, h3, h4⟩ := hx
 have hl := h2.s_len_le (show sval l < spow 900 by rw [← sint_natAbs nb l, h4]; exact hz)
 exact DecFrac_z nb v l z m w h1 h2 h3 h4 (by omega) (by omega)

theorem dscale {z e m : Int} (h : m ≤ e) : dnum (z * ((10 ^ (e - m).toNat : Nat) : Int)) m * (dden e : Int) = dnum z e * (dden m : Int) := by
 unfold dnum dden
 by_cases h1 : 0 ≤ m
 · have h2 : 0 ≤ e := by omega
   rw [if_pos h1, if_pos h2, if_pos h1, if_pos h2, show ((1 : Nat) : Int) = 1 by rfl, Int.mul_one, Int.mul_one, Int.mul_assoc, ← Int.natCast_mul, ← Nat.pow_add, show (e - m).toNat + m.toNat = e.toNat by omega]
 · by_cases h2 : 0 ≤ e
   · rw [if_neg h1, if_pos h2, if_neg h1, if_pos h2, Int.mul_assoc, Int.mul_assoc, ← Int.natCast_mul, ← Int.natCast_mul, ← Nat.pow_add, Nat.mul_one, show e.toNat + (-m).toNat = (e - m).toNat by omega]
   · rw [if_neg h1, if_neg h2, if_neg h1, if_neg h2, Int.mul_assoc, ← Int.natCast_mul, ← Nat.pow_add, show (e - m).toNat + (-e).toNat = (-m).toNat by omega]

theorem dnum_lt {z e : Int} {p : Nat} (h : z.natAbs < 10 ^ p) (he : e ≤ 60) : (dnum z e).natAbs < 10 ^ (p + 60) := by
 unfold dnum; split
 · rw [Int.natAbs_mul, Int.natAbs_natCast, Nat.pow_add]
   exact Nat.mul_lt_mul_of_lt_of_le h (Nat.pow_le_pow_right (by omega) (by omega)) (Nat.pow_pos (by omega))
 · exact Nat.lt_of_lt_of_le h (Nat.pow_le_pow_right (by omega) (by omega))

theorem spow_of_ten {n p k : Nat} (h : n < 10 ^ p) (hp : p ≤ 9 * k) : n < spow k := by
 rw [spow_ten]; exact Nat.lt_of_lt_of_le h (Nat.pow_le_pow_right (by omega) hp)

def rsZ (z e e' : Int) : Int := if e ≤ e' then z.tdiv ((10 ^ (e' - e).toNat : Nat) : Int) else z * ((10 ^ (e - e').toNat : Nat) : Int)

theorem sgnN_self (z : Int) : sgnN z z.natAbs = z := by unfold sgnN; split <;> omega

theorem mul_sgn (z : Int) (k : Nat) : z * (k : Int) = sgnN z (z.natAbs * k) := by
 rw [← sgnN_mul, sgnN_self]

theorem tdiv_sgn (z : Int) (k : Nat) : z.tdiv (k : Int) = sgnN z (z.natAbs / k) := by
 unfold sgnN
 by_cases h : z < 0
 · rw [if_pos h]
   obtain ⟨m, hm⟩ : ∃ m : Nat, z = -(m : Int) := ⟨z.natAbs, by omega⟩
   subst hm
   rw [Int.neg_tdiv, Int.natAbs_neg, Int.natAbs_natCast]
   rfl
 · rw [if_neg h]
   obtain ⟨m, hm⟩ : ∃ m : Nat, z = (m : Int) := ⟨z.natAbs, by omega⟩
   subst hm
   rw [Int.natAbs_natCast]
   rfl

theorem rsZ_sgn (z e n : Int) : rsZ z e n = sgnN z (if e ≤ n then z.natAbs / 10 ^ (n - e).toNat else z.natAbs * 10 ^ (e - n).toNat) := by
 unfold rsZ
 split
 · exact tdiv_sgn _ _
 · exact mul_sgn _ _

theorem dnum_abs (z e : Int) : (dnum z e).natAbs = z.natAbs * 10 ^ e.toNat := by
 unfold dnum
 split
 · rw [Int.natAbs_mul, Int.natAbs_natCast]
 · rw [show e.toNat = 0 by omega, Nat.pow_zero, Nat.mul_one]

theorem dden_eq (e : Int) : dden e = 10 ^ (-e).toNat := by
 unfold dden
 split
 · rw [show (-e).toNat = 0 by omega]
 · rfl

theorem dnum_neg_iff (z e : Int) : dnum z e < 0 ↔ z < 0 := by
 unfold dnum
 split
 · have hp : (0 : Int) < ((10 ^ e.toNat : Nat) : Int) := Int.natCast_pos.2 (Nat.pow_pos (by omega))
   generalize ((10 ^ e.toNat : Nat) : Int) = K at *
   constructor
   · intro h
     rcases Int.lt_or_le z 0 with h' | h'
     · exact h'
     · exact absurd (Int.mul_nonneg h' (Int.le_of_lt hp)) (by omega)
   · intro h
     exact Int.mul_neg_of_neg_of_pos h hp
 · exact Iff.rfl

theorem dnum_sgn (z e : Int) (n : Nat) : sgnN (dnum z e) n = sgnN z n := by
 unfold sgnN
 simp only [dnum_neg_iff]

theorem rsZ_frac {z e n : Int} (h : n ≤ e) : dnum z e * (dden n : Int) = dnum (rsZ z e n) n * (dden e : Int) := by
 have := dscale (z := z) h
 unfold rsZ
 by_cases h1 : e ≤ n
 · obtain rfl : e = n := by omega
   rw [if_pos (Int.le_refl _), Int.sub_self]
   have : z.tdiv ((10 ^ (0 : Int).toNat : Nat) : Int) = z := Int.tdiv_one z
   rw [this]
 · rw [if_neg h1]
   exact this.symm

theorem rdW_scale {ru : Bool → Int → Bool → Bool} {neg : Bool} (a b c : Nat) (hc : 0 < c) : rdW ru neg (a * c) (b * c) = rdW ru neg a b := by
 unfold rdW
 rw [Nat.mul_div_mul_right _ _ hc, Nat.mul_mod_mul_right]
 have h1 : (a % b * c ≠ 0) ↔ a % b ≠ 0 := by
  constructor
  · intro h h'; rw [h', Nat.zero_mul] at h; exact h rfl
  · intro h h'
    rcases Nat.mul_eq_zero.1 h' with h'' | h''
    · exact h h''
    · omega
 have h2 : cmpN (a % b * c + a % b * c) (b * c) = cmpN (a % b + a % b) b := by
  rw [← Nat.add_mul]
  rcases Nat.lt_trichotomy (a % b + a % b) b with h | h | h
  · rw [cmpN_lt h, cmpN_lt (Nat.mul_lt_mul_of_pos_right h hc)]
  · rw [h, cmpN_eq, cmpN_eq]
  · rw [cmpN_gt h, cmpN_gt (Nat.mul_lt_mul_of_pos_right h hc)]
 simp only [h1, h2]

def qA (z e : Int) : Int := z * ((10 ^ e.toNat : Nat) : Int)
def qB (z e : Int) : Int := z * ((10 ^ (-e).toNat : Nat) : Int)

theorem qA_abs (z e : Int) : (qA z e).natAbs = z.natAbs * 10 ^ e.toNat := by unfold qA; rw [Int.natAbs_mul, Int.natAbs_natCast]
theorem qB_abs (z e : Int) : (qB z e).natAbs = z.natAbs * 10 ^ (-e).toNat := by unfold qB; rw [Int.natAbs_mul, Int.natAbs_natCast]

def qN (z1 e1 z2 e2 : Int) : Int := dnum z1 e1 * (if dnum z2 e2 < 0 then -(dden e2 : Int) else (dden e2 : Int))

theorem qN_abs (z1 e1 z2 e2 : Int) : (qN z1 e1 z2 e2).natAbs = z1.natAbs * 10 ^ (e1.toNat + (-e2).toNat) := by
 unfold qN
 rw [Int.natAbs_mul, dnum_abs]
 have : (if dnum z2 e2 < 0 then -(dden e2 : Int) else (dden e2 : Int)).natAbs = 10 ^ (-e2).toNat := by
  rw [← dden_eq]; split <;> omega
 rw [this, Nat.mul_assoc, ← Nat.pow_add]

theorem rdq_pos {ru : Bool → Int → Bool → Bool} {neg : Bool} (z1 e1 z2 e2 : Int) (p : Nat) :
 rdW ru neg ((qN z1 e1 z2 e2).natAbs * 10 ^ p) (dden e1 * (dnum z2 e2).natAbs) = rdW ru neg (qA z1 (e1 - e2 + (p : Int))).natAbs (qB z2 (e1 - e2 + (p : Int))).natAbs := by
 rw [qN_abs, qA_abs, qB_abs, dnum_abs, dden_eq, Nat.mul_assoc, ← Nat.pow_add, Nat.mul_comm (10 ^ (-e1).toNat), Nat.mul_assoc, ← Nat.pow_add]
 by_cases h : 0 ≤ e1 - e2 + (p : Int)
 · rw [show e1.toNat + (-e2).toNat + p = (e1 - e2 + (p : Int)).toNat + (e2.toNat + (-e1).toNat) by omega, show (-(e1 - e2 + (p : Int))).toNat = 0 by omega, Nat.pow_add, ← Nat.mul_assoc, Nat.pow_zero, Nat.mul_one]
   exact rdW_scale _ _ _ (Nat.pow_pos (by omega))
 · rw [show e2.toNat + (-e1).toNat = (-(e1 - e2 + (p : Int))).toNat + (e1.toNat + (-e2).toNat + p) by omega, show (e1 - e2 + (p : Int)).toNat = 0 by omega, Nat.pow_add 10 (-(e1 - e2 + (p : Int))).toNat, ← Nat.mul_assoc, Nat.pow_zero, Nat.mul_one]
   exact rdW_scale _ _ _ (Nat.pow_pos (by omega))

theorem rdq_neg {ru : Bool → Int → Bool → Bool} {neg : Bool} (z1 e1 z2 e2 : Int) (p : Nat) :
 rdW ru neg (qN z1 e1 z2 e2).natAbs (dden e1 * (dnum z2 e2).natAbs * 10 ^ p) = rdW ru neg (qA z1 (e1 - e2 - (p : Int))).natAbs (qB z2 (e1 - e2 - (p : Int))).natAbs := by
 rw [qN_abs, qA_abs, qB_abs, dnum_abs, dden_eq, Nat.mul_comm (10 ^ (-e1).toNat), Nat.mul_assoc, Nat.mul_assoc, ← Nat.pow_add, ← Nat.pow_add]
 by_cases h : 0 ≤ e1 - e2 - (p : Int)
 · rw [show e1.toNat + (-e2).toNat = (e1 - e2 - (p : Int)).toNat + (e2.toNat + ((-e1).toNat + p)) by omega, show (-(e1 - e2 - (p : Int))).toNat = 0 by omega, Nat.pow_add 10 (e1 - e2 - (p : Int)).toNat, ← Nat.mul_assoc, Nat.pow_zero, Nat.mul_one]
   exact rdW_scale _ _ _ (Nat.pow_pos (by omega))
 · rw [show e2.toNat + ((-e1).toNat + p) = (-(e1 - e2 - (p : Int))).toNat + (e1.toNat + (-e2).toNat) by omega, show (e1 - e2 - (p : Int)).toNat = 0 by omega, Nat.pow_add 10 (-(e1 - e2 - (p : Int))).toNat, ← Nat.mul_assoc, Nat.pow_zero, Nat.mul_one]
   exact rdW_scale _ _ _ (Nat.pow_pos (by omega))

theorem rdW_dir (f : Bool → Bool) (neg : Bool) (a b : Nat) : rdW (fun ng _ _ => f ng) neg a b = a / b + (if a % b ≠ 0 ∧ f neg = true then 1 else 0) := rfl

theorem tmod_sgn (z : Int) (k : Nat) : z.tmod (k : Int) = sgnN z (z.natAbs % k) := by
 unfold sgnN
 by_cases h : z < 0
 · rw [if_pos h]
   obtain ⟨m, hm⟩ : ∃ m : Nat, z = -(m : Int) := ⟨z.natAbs, by omega⟩
   subst hm
   rw [Int.neg_tmod, Int.natAbs_neg, Int.natAbs_natCast]
   rfl
 · rw [if_neg h]
   obtain ⟨m, hm⟩ : ∃ m : Nat, z = (m : Int) := ⟨z.natAbs, by omega⟩
   subst hm
   rw [Int.natAbs_natCast]
   rfl

theorem tmod_abs (a b : Int) : (a.tmod b).natAbs = a.natAbs % b.natAbs := by
 have h1 : a.tmod b = a.tmod (b.natAbs : Int) := by
  rcases Int.natAbs_eq b with h | h
  · rw [← h]
  · have e : a.tmod b = a.tmod (-(b.natAbs : Int)) := by rw [← h]
    rw [e, Int.tmod_neg]
 rw [h1, tmod_sgn, sgnN_abs]

theorem sgnN_succ (z : Int) (n : Nat) : sgnN z (n + 1) = sgnN z n + (if z < 0 then -1 else 1) := by
 unfold sgnN
 split <;> omega

theorem sgnN_zero (z : Int) : sgnN z 0 = 0 := by unfold sgnN; split <;> rfl

theorem one_qN (z e : Int) : qN z e 1 0 = dnum z e := by
 unfold qN
 rw [if_neg (by decide)]
 exact Int.mul_one _

theorem rd_pos {ru : Bool → Int → Bool → Bool} {neg : Bool} (z e : Int) (p : Nat) :
 rdW ru neg ((dnum z e).natAbs * 10 ^ p) (dden e) = rdW ru neg (z.natAbs * 10 ^ (e - -(p : Int)).toNat) (10 ^ (-(p : Int) - e).toNat) := by
 have := rdq_pos (ru := ru) (neg := neg) z e 1 0 p
 rw [one_qN, show (dnum 1 0).natAbs = 1 from rfl, Nat.mul_one, qA_abs, qB_abs, show (1 : Int).natAbs = 1 from rfl, Nat.one_mul] at this
 rw [this, show (e - 0 + (p : Int)).toNat = (e - -(p : Int)).toNat by omega, show (-(e - 0 + (p : Int))).toNat = (-(p : Int) - e).toNat by omega]

theorem rd_neg {ru : Bool → Int → Bool → Bool} {neg : Bool} (z e : Int) (p : Nat) :
 rdW ru neg (dnum z e).natAbs (dden e * 10 ^ p) = rdW ru neg (z.natAbs * 10 ^ (e - (p : Int)).toNat) (10 ^ ((p : Int) - e).toNat) := by
 have := rdq_neg (ru := ru) (neg := neg) z e 1 0 p
 rw [one_qN, show (dnum 1 0).natAbs = 1 from rfl, Nat.mul_one, qA_abs, qB_abs, show (1 : Int).natAbs = 1 from rfl, Nat.one_mul] at this
 rw [this, show (e - 0 - (p : Int)).toNat = (e - (p : Int)).toNat by omega, show (-(e - 0 - (p : Int))).toNat = ((p : Int) - e).toNat by omega]

theorem dir_law (f : Bool → Bool) (z : Int) (P : Nat) : sgnN z (rdW (fun ng _ _ => f ng) (decide (z < 0)) z.natAbs P) =
 z.tdiv (P : Int) + (if z.tmod (P : Int) = 0 then 0 else if f (decide (z < 0)) = true then (if z < 0 then -1 else 1) else 0) := by
 rw [rdW_dir, tdiv_sgn, tmod_sgn]
 by_cases h : z.natAbs % P = 0
 · rw [if_neg (fun hh => hh.1 h), h, sgnN_zero, if_pos rfl, Nat.add_zero, Int.add_zero]
 · have h' : ¬ sgnN z (z.natAbs % P) = 0 := fun e => h (by have := sgnN_abs z (z.natAbs % P); rw [e] at this; exact this.symm)
   rw [if_neg h']
   by_cases hf : f (decide (z < 0)) = true
   · rw [if_pos ⟨h, hf⟩, if_pos hf, sgnN_succ]
   · rw [if_neg (fun hh => hf hh.2), if_neg hf, Nat.add_zero, Int.add_zero]

def adZ (f : Bool → Bool) (z e n : Int) : Int := if n ≤ e then rsZ z e n else
 z.tdiv ((10 ^ (n - e).toNat : Nat) : Int) + (if z.tmod ((10 ^ (n - e).toNat : Nat) : Int) = 0 then 0 else if f (decide (z < 0)) = true then (if z < 0 then -1 else 1) else 0)

theorem ad_law (f : Bool → Bool) (z e n : Int) : sgnN z (rdW (fun ng _ _ => f ng) (decide (z < 0)) (z.natAbs * 10 ^ (e - n).toNat) (10 ^ (n - e).toNat)) = adZ f z e n := by
 unfold adZ
 by_cases h : n ≤ e
 · rw [if_pos h, show (n - e).toNat = 0 by omega, Nat.pow_zero, rdW_dir, Nat.mod_one, if_neg (fun hh => hh.1 rfl), Nat.div_one, Nat.add_zero, rsZ_sgn]
   by_cases h1 : e ≤ n
   · obtain rfl : e = n := by omega
     rw [if_pos h1, Int.sub_self, show (0 : Int).toNat = 0 from rfl, Nat.pow_zero, Nat.mul_one, Nat.div_one]
   · rw [if_neg h1]
 · rw [if_neg h, show (e - n).toNat = 0 by omega, Nat.pow_zero, Nat.mul_one]
   exact dir_law f z _

end Go.Proofs.YtllencgncinphaaGreatDoor
