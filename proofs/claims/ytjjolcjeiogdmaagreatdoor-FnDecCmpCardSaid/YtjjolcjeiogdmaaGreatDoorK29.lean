/- Int.Cmp of signed integers; comparing decimals by fractions (plain). -/
import Derived.Test.YtjjolcjeiogdmaaGreatDoorK8
import Derived.Test.YtjjolcjeiogdmaaGreatDoorK15
import Derived.Test.YtjjolcjeiogdmaaGreatDoorK21
import Derived.Test.YtjjolcjeiogdmaaGreatDoorK28
namespace Go.Proofs.YtjjolcjeiogdmaaGreatDoor
open Go.RowKit

theorem cmpN_neg (a b : Nat) : -cmpN a b = cmpN b a := by
  unfold cmpN
  split <;> split <;> (try split) <;> (try split) <;> omega

theorem ival_pos {neg : Bool} {l : List Nat} (hn : Norm l) (hc : l = [] → neg = false) (h : neg = true) : 0 < val l := by
  subst h
  rcases Nat.eq_zero_or_pos (val l) with h0 | h0
  · have := val_nil_of hn h0
    have := hc this
    cases this
  · exact h0

set_option maxRecDepth 20000 in
set_option maxHeartbeats 2000000 in
theorem IntCmp_z (b1 b2 : Nat) (v u : Value) (x y : Int) (w : World) (hlx : x.natAbs < wpow 39) (hly : y.natAbs < wpow 39) (hne : b1 ≠ b2) (hx : ZI w b1 v x) (hy : ZI w b2 u y) :
    Calls Tryz.prog 48 #[.pointer (some ⟨b1, 0, none⟩), .pointer (some ⟨b2, 0, none⟩)] w (Quiet w (.int .i64 (cmpZ x y))) := by
  obtain ⟨n1, l, hx, rfl⟩ := hx
  obtain ⟨n2, k, hy, rfl⟩ := hy
  have h1 := hx.len rfl hlx
  have h2 := hy.len rfl hly
  have p1 := fun h => ival_pos (neg := n1) hx.norm hx.zero h
  have p2 := fun h => ival_pos (neg := n2) hy.norm hy.zero h
  have heq : (binOp .eql 47 (.pointer (some ⟨b1, 0, none⟩)) (.pointer (some ⟨b2, 0, none⟩))).run Tryz.prog w = .ok (.bool false) w := StrAt.eql_ne hx.str hy.str hne Tryz.underlying47 (by kernel_rfl)
  have cx0 := hx.str.c0; have cx1 := hx.str.c1; have cy0 := hy.str.c0; have cy1 := hy.str.c1
  rw [Nat.zero_add] at cx1 cy1
  cases n1 <;> cases n2
  · have hr : cmpZ (ival false l) (ival false k) = cmpN (val l) (val k) := cmpZ_pp _ _
    rw [hr]
    exact IntCmp_any b1 b2 v u (val l) (val k) w (by rw [ival_abs] at hlx; exact hlx) (by rw [ival_abs] at hly; exact hly) hne ⟨l, hx, rfl⟩ ⟨k, hy, rfl⟩
  · have hr : cmpZ (ival false l) (ival true k) = 1 := by
      have := p2 rfl
      unfold cmpZ ival
      rw [if_neg (by simp <;> omega), if_pos (by simp <;> omega)]
    rw [hr]
    clear hr p1 p2 hlx hly
    have H_hx := Lib.hid hx; clear hx
    have H_hy := Lib.hid hy; clear hy
    go_enter Tryz.func48, Tryz.ntmps48
    go_wp2_with (go_quiet (fail))
    go_ret
    exact ⟨rfl, _, rfl⟩
  · have hr : cmpZ (ival true l) (ival false k) = -1 := by
      have := p1 rfl
      unfold cmpZ ival
      rw [if_pos (by simp <;> omega)]
    rw [hr]
    clear hr p1 p2 hlx hly
    have H_hx := Lib.hid hx; clear hx
    have H_hy := Lib.hid hy; clear hy
    go_enter Tryz.func48, Tryz.ntmps48
    go_wp2_with (go_quiet (fail))
    go_ret
    exact ⟨rfl, _, rfl⟩
  · have hr : cmpZ (ival true l) (ival true k) = -cmpN (val l) (val k) := by rw [cmpN_neg]; exact cmpZ_nn _ _
    rw [hr]
    have hb : IntKind.i64.wrap (-cmpN (val l) (val k)) = -cmpN (val l) (val k) := by
      rw [IntKind.wrap_i64]
      unfold cmpN
      split <;> (try split) <;> omega
    clear hr p1 p2 hlx hly
    have H_hx := Lib.hid hx; clear hx
    have H_hy := Lib.hid hy; clear hy
    go_enter Tryz.func48, Tryz.ntmps48
    go_wp2_with (go_quiet (fail))
    have hx2 := H_hx.out.drewN nq
    have hy2 := H_hy.out.drewN nq
    clear H_hx H_hy cx0 cx1 cy0 cy1 heq
    generalize hwq : w.drewN nq = wq at *
    have cx0 := hx2.str.c0; have cx1 := hx2.str.c1; have cy0 := hy2.str.c0; have cy1 := hy2.str.c1
    rw [Nat.zero_add] at cx1 cy1
    have hcmp : ∀ q, Calls Tryz.prog 72 #[v, u] (wq.drewN q) (Quiet (wq.drewN q) (.int .i64 (cmpN (val l) (val k)))) := fun q => nat_cmp v u l k _ (by omega) (by omega) hx2.nat hy2.nat hx2.norm hy2.norm
    generalize cmpN (val l) (val k) = r at *
    have H_hwq := Lib.hid hwq
    clear hwq
    have H_hx2 := Lib.hid hx2; clear hx2
    have H_hy2 := Lib.hid hy2; clear hy2
    have H_hcmp := Lib.hid hcmp; clear hcmp
    go_wp2_with (go_quiet ((go_at_call 72; exact quietOf (H_hcmp.out _))))
    go_ret
    refine ⟨rfl, ?_⟩
    rw [← H_hwq.out, World.drewN_drewN]
    exact ⟨_, rfl⟩

theorem cmpZ_mul {a b c : Int} (h : 0 < c) : cmpZ (a * c) (b * c) = cmpZ a b := by
  have h1 : a * c < b * c ↔ a < b := Int.mul_lt_mul_right h
  have h2 : b * c < a * c ↔ b < a := Int.mul_lt_mul_right h
  unfold cmpZ
  simp only [h1, h2]

theorem cmpZ_ways (a b : Int) : cmpZ a b = -1 ∨ cmpZ a b = 0 ∨ cmpZ a b = 1 := by
  unfold cmpZ
  split
  · exact .inl rfl
  · split
    · exact .inr (.inr rfl)
    · exact .inr (.inl rfl)

theorem ten_posI (n : Nat) : (0 : Int) < ((10 ^ n : Nat) : Int) := by
  have : 0 < 10 ^ n := Nat.pow_pos (by omega)
  exact_mod_cast this

theorem dnum_cmp (a b m : Int) : cmpZ (dnum a m) (dnum b m) = cmpZ a b := by
  unfold dnum
  split
  · exact cmpZ_mul (ten_posI _)
  · rfl

theorem dden_posI (e : Int) : (0 : Int) < (dden e : Int) := by
  have : 0 < dden e := by
    unfold dden
    split
    · omega
    · exact Nat.pow_pos (by omega)
  exact_mod_cast this

/-- two decimals, brought to one exponent, compare as their fractions do -/
theorem dcmp_frac {z1 z2 e1 e2 m : Int} (h1 : m ≤ e1) (h2 : m ≤ e2) :
    cmpZ (dnum z1 e1 * (dden e2 : Int)) (dnum z2 e2 * (dden e1 : Int)) = cmpZ (z1 * ((10 ^ (e1 - m).toNat : Nat) : Int)) (z2 * ((10 ^ (e2 - m).toNat : Nat) : Int)) := by
  have a := dscale (z := z1) h1
  have b := dscale (z := z2) h2
  rw [← dnum_cmp (z1 * ((10 ^ (e1 - m).toNat : Nat) : Int)) (z2 * ((10 ^ (e2 - m).toNat : Nat) : Int)) m]
  generalize dnum (z1 * _) m = A at *
  generalize dnum (z2 * _) m = B at *
  have p1 := dden_posI e1
  have p2 := dden_posI e2
  have p3 := dden_posI m
  generalize dnum z1 e1 = n1 at *
  generalize dnum z2 e2 = n2 at *
  generalize (dden e1 : Int) = d1 at *
  generalize (dden e2 : Int) = d2 at *
  generalize (dden m : Int) = D at *
  rw [← cmpZ_mul (a := n1 * d2) p3, ← cmpZ_mul (a := A) (Int.mul_pos p1 p2), show n1 * d2 * D = n1 * D * d2 by ac_rfl, show n2 * d1 * D = n2 * D * d1 by ac_rfl, ← a, ← b]
  rw [show A * d1 * d2 = A * (d1 * d2) by ac_rfl, show B * d2 * d1 = B * (d1 * d2) by ac_rfl]

theorem cmpZ_signs {z1 z2 : Int} {p q : Int} (hp : 0 < p) (hq : 0 < q) :
    (z1 < 0 ∧ 0 ≤ z2 → cmpZ (z1 * p) (z2 * q) = -1) ∧ (z1 = 0 ∧ z2 = 0 → cmpZ (z1 * p) (z2 * q) = 0) ∧ (z1 = 0 ∧ 0 < z2 → cmpZ (z1 * p) (z2 * q) = -1) ∧ (0 ≤ z1 ∧ z2 < 0 → cmpZ (z1 * p) (z2 * q) = 1) ∧ (0 < z1 ∧ z2 = 0 → cmpZ (z1 * p) (z2 * q) = 1) := by
  refine ⟨fun ⟨h1, h2⟩ => ?_, fun ⟨h1, h2⟩ => ?_, fun ⟨h1, h2⟩ => ?_, fun ⟨h1, h2⟩ => ?_, fun ⟨h1, h2⟩ => ?_⟩
  · have a := Int.mul_neg_of_neg_of_pos h1 hp
    have b := Int.mul_nonneg h2 (Int.le_of_lt hq)
    unfold cmpZ; rw [if_pos (by omega)]
  · rw [h1, h2, Int.zero_mul, Int.zero_mul]; rfl
  · have b := Int.mul_pos h2 hq
    rw [h1, Int.zero_mul]; unfold cmpZ; rw [if_pos b]
  · have a := Int.mul_nonneg h1 (Int.le_of_lt hp)
    have b := Int.mul_neg_of_neg_of_pos h2 hq
    unfold cmpZ; rw [if_neg (by omega), if_pos (by omega)]
  · have a := Int.mul_pos h1 hp
    rw [h2, Int.zero_mul]; unfold cmpZ; rw [if_neg (by omega), if_pos a]

end Go.Proofs.YtjjolcjeiogdmaaGreatDoor
