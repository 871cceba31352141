/- The contracts of the thin package: FixNeg. -/
import Derived.Defers
import Derived.Recover
import Derived.Test.YtecadiflbfpofaaGreatDoorJ4
namespace Go.Proofs.YtecadiflbfpofaaGreatDoor
open Go.RowKit

theorem results_cell_cell {P : Program} {fn : Func} {p q : Tmp} {ty ty' : TypeId} (h : fn.results = #[.cell p ty, .cell q ty']) (tmps : Array Value) (w : World) (g : Nat) (t : TypeId) (cs : Array Value) (fr : Nat × Nat) (d : TypeDesc) (g' : Nat) (v : Value)
    (hp : tmps.getD p undef = .pointer (some ⟨g, 0, none⟩)) (hq : tmps.getD q undef = .pointer (some ⟨g', 0, none⟩)) (hg : w.heap[g]? = some (.cells cs t fr)) (hu : P.underlying ty = some d) (hd : (match d with | .struct _ | .array _ _ => true | _ => false) = true) (hi : (P.info? ty).map (·.size) = some cs.size)
    (hv : (loadVar ty' ⟨g', 0, none⟩).run P w = .ok v w) :
    (results fn tmps).run P w = .ok (.tuple #[.agg cs, v]) w := by
  have hp' : tmps[p]?.getD undef = .pointer (some ⟨g, 0, none⟩) := by simpa using hp
  have hq' : tmps[q]?.getD undef = .pointer (some ⟨g', 0, none⟩) := by simpa using hq
  simp [results, h, hp', hq', asAddr, run_loadVar_row w g t ty cs fr d hg hu hd hi, hv, Sem.run_bind, Result.andThen]

theorem row_far {w : World} {g h o : Nat} {x : Value} (hne : h ≠ g) : (w.setCell ⟨h, o, none⟩ x).heap[g]? = w.heap[g]? := by
  simp only [World.setCell, Array.getElem?_modify]
  rw [if_neg hne]

end Go.Proofs.YtecadiflbfpofaaGreatDoor

/- The contracts of the thin package: FixAbs. -/
namespace Go.Proofs.YtecadiflbfpofaaGreatDoor
open Go.RowKit

end Go.Proofs.YtecadiflbfpofaaGreatDoor

/- The contracts of govalues' decimals: CopySign. -/
namespace Go.Proofs.YtecadiflbfpofaaGreatDoor
open Go.RowKit

end Go.Proofs.YtecadiflbfpofaaGreatDoor

/- The contracts of the thin package: FixCopySign. -/
namespace Go.Proofs.YtecadiflbfpofaaGreatDoor
open Go.RowKit

theorem boxes4 (w : World) (c1 c2 c3 c4 : Array Value) (T1 T2 T3 T4 : TypeId) : ∀ g, g = w.heap.size → ∀ w1, (((w.alloc (.cells c1 T1)).alloc (.cells c2 T2)).alloc (.cells c3 T3)).alloc (.cells c4 T4) = w1 →
    w1.heap[g]? = some (.cells c1 T1 (0, 0)) ∧ w1.heap[g + 1]? = some (.cells c2 T2 (0, 0)) ∧ w1.heap[g + 1 + 1]? = some (.cells c3 T3 (0, 0)) ∧ w1.heap[g + 1 + 1 + 1]? = some (.cells c4 T4 (0, 0)) ∧ Fresh w w1 := by
  rintro g hg w1 rfl
  obtain ⟨b1, b2, b3, hf, hgs⟩ := boxes3 w c1 c2 c3 T1 T2 T3 g hg _ rfl
  have f4 : Fresh (((w.alloc (.cells c1 T1)).alloc (.cells c2 T2)).alloc (.cells c3 T3)) ((((w.alloc (.cells c1 T1)).alloc (.cells c2 T2)).alloc (.cells c3 T3)).alloc (.cells c4 T4)) := (Keep.refl _ _).alloc _
  refine ⟨row_fresh b1 f4, row_fresh b2 f4, row_fresh b3 f4, ?_, fresh_trans hf f4⟩
  have s3 : (((w.alloc (.cells c1 T1)).alloc (.cells c2 T2)).alloc (.cells c3 T3)).heap.size = g + 1 + 1 + 1 := by simp [hg]
  rw [← s3]
  exact heap_alloc_new _ _

end Go.Proofs.YtecadiflbfpofaaGreatDoor

/- The contracts of govalues' whole numbers of 64 bits: prec, ntz; and the laws of digits and of zeros at the end. -/
namespace Go.Proofs.YtecadiflbfpofaaGreatDoor
open Go.RowKit

def trimN : Nat → Nat → Nat
  | 0, _ => 0
  | s+1, c => if c % 10 = 0 then trimN s (c/10) else s+1

theorem trimN_zero : ∀ s, trimN s 0 = 0
  | 0 => rfl
  | s+1 => by simp [trimN, trimN_zero s]

theorem trimN_ntz : ∀ (s c k : Nat), 10^k ∣ c → ¬ 10^(k+1) ∣ c → trimN s c = s - k
  | 0, c, k, _, _ => by simp [trimN]
  | s+1, c, 0, _, h => by
    have : ¬ c % 10 = 0 := fun e => h (by simpa using Nat.dvd_of_mod_eq_zero e)
    simp [trimN, this]
  | s+1, c, k+1, h1, h2 => by
    obtain ⟨m, rfl⟩ := h1
    have e : 10 ^ (k+1) * m = 10 * (10 ^ k * m) := by rw [Nat.pow_succ, Nat.mul_comm (10^k) 10, Nat.mul_assoc]
    have h3 : (10 ^ (k+1) * m) % 10 = 0 := by rw [e]; exact Nat.mul_mod_right ..
    have h4 : (10 ^ (k+1) * m) / 10 = 10 ^ k * m := by rw [e]; exact Nat.mul_div_cancel_left _ (by decide)
    have h5 : ¬ 10^(k+1) ∣ 10^k * m := by
      intro ⟨j, hj⟩
      refine h2 ⟨j, ?_⟩
      rw [e, hj, Nat.pow_succ 10 (k+1), Nat.mul_comm (10^(k+1)) 10, Nat.mul_assoc]
    have := trimN_ntz s (10^k * m) k ⟨m, rfl⟩ h5
    simp only [trimN, h3, if_true, h4]
    omega

theorem trimN_le : ∀ s c, trimN s c ≤ s
  | 0, _ => Nat.le_refl _
  | s+1, c => by
    have := trimN_le s (c/10)
    simp only [trimN]; split <;> omega

theorem trimN_int : ∀ (s c : Nat), trimN s c = 0 ↔ c % 10^s = 0
  | 0, c => by simp [trimN, Nat.mod_one]
  | s+1, c => by
    have e : 10 ^ (s+1) = 10 * 10 ^ s := by rw [Nat.pow_succ, Nat.mul_comm]
    simp only [trimN]
    rw [e, Nat.mod_mul]
    split
    · next h => rw [trimN_int s (c/10), h]; have : 0 < 10^s := Nat.pow_pos (by decide); omega
    · next h => simp; omega

theorem pow_le_of_dvd {k c : Nat} (h : 10^k ∣ c) (hc : 0 < c) : 10^k ≤ c := Nat.le_of_dvd hc h
theorem dvd_iff_mod (k c : Nat) : 10^k ∣ c ↔ c % 10^k = 0 := Nat.dvd_iff_mod_eq_zero ..
theorem pow_dvd_le {i j c : Nat} (h : i ≤ j) (hd : 10^j ∣ c) : 10^i ∣ c := Nat.dvd_trans (Nat.pow_dvd_pow 10 h) hd

/-- p is how many decimal digits c has; 0 for 0 -/
def IsPrec (c p : Nat) : Prop := c < 10 ^ p ∧ (0 < p → 10 ^ (p - 1) ≤ c)

theorem IsPrec.lt_iff {c p m : Nat} (h : IsPrec c p) : c < 10 ^ m ↔ p ≤ m := by
  refine ⟨fun h1 => ?_, fun h1 => Nat.lt_of_lt_of_le h.1 (Nat.pow_le_pow_right (by decide) h1)⟩
  refine Nat.le_of_not_lt fun h2 => ?_
  have h3 := h.2 (by omega)
  have h4 : 10 ^ m ≤ 10 ^ (p - 1) := Nat.pow_le_pow_right (by decide) (by omega)
  omega

theorem IsPrec.unique {c p q : Nat} (h : IsPrec c p) (k : IsPrec c q) : p = q :=
  Nat.le_antisymm (h.lt_iff.1 k.1) (k.lt_iff.1 h.1)

theorem isPrec_ex : ∀ (n c : Nat), c < 10 ^ n → ∃ p, p ≤ n ∧ IsPrec c p
  | 0, c, h => ⟨0, Nat.le_refl _, h, fun h => absurd h (by decide)⟩
  | n+1, c, h => by
    by_cases h1 : c < 10 ^ n
    · obtain ⟨p, h2, h3⟩ := isPrec_ex n c h1
      exact ⟨p, by omega, h3⟩
    · exact ⟨n+1, Nat.le_refl _, h, fun _ => by simpa using Nat.le_of_not_lt h1⟩

theorem isNtz_ex : ∀ (n c : Nat), 0 < c → c < 10 ^ n → ∃ k, 10 ^ k ∣ c ∧ ¬ 10 ^ (k+1) ∣ c
  | 0, c, h0, h => by simp at h; omega
  | n+1, c, h0, h => by
    by_cases h1 : 10 ∣ c
    · obtain ⟨m, rfl⟩ := h1
      obtain ⟨k, h2, h3⟩ := isNtz_ex n m (by omega) (by rw [Nat.pow_succ] at h; omega)
      refine ⟨k+1, ?_, ?_⟩
      · rw [Nat.pow_succ, Nat.mul_comm]; exact Nat.mul_dvd_mul_left 10 h2
      · intro h4
        apply h3
        rw [Nat.pow_succ, Nat.mul_comm] at h4
        exact Nat.dvd_of_mul_dvd_mul_left (by decide) h4
    · exact ⟨0, by simp, by simpa using h1⟩
theorem ntz_iff {c k m : Nat} (h1 : 10^k ∣ c) (h2 : ¬ 10^(k+1) ∣ c) : c % 10 ^ m = 0 ↔ m ≤ k := by
  rw [← Nat.dvd_iff_mod_eq_zero]
  refine ⟨fun h => Nat.le_of_not_lt fun h3 => h2 (Nat.dvd_trans (Nat.pow_dvd_pow 10 h3) h), fun h => Nat.dvd_trans (Nat.pow_dvd_pow 10 h) h1⟩

/-- the table of the powers of ten holds what it is laid -/
def Pow10s (w : World) : Prop := ∀ i : Nat, i < 20 → w.cell? ⟨2, i, none⟩ = some (.int .u64 ((10 ^ i : Nat) : Int))

theorem Pow10s.fresh {w w' : World} (h : Pow10s w) (hk : Fresh w w') : Pow10s w' := fun i hi => cell_fresh (h i hi) hk

theorem half_sum (a b : Nat) : Int.tdiv ((a : Int) + (b : Int)) 2 = (((a + b) / 2 : Nat) : Int) := by
  rw [Int.tdiv_eq_ediv_of_nonneg (by omega)]; omega

end Go.Proofs.YtecadiflbfpofaaGreatDoor
