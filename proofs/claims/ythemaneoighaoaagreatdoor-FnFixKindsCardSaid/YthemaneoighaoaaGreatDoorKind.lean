/- The contracts of govalues' decimals: Sign, IsOne, WithinOne, Prec. -/
import Derived.Test.YthemaneoighaoaaGreatDoorMin
namespace Go.Proofs.YthemaneoighaoaaGreatDoor
open Go.RowKit

/-- the sign of a decimal -/
def gsign (neg : Bool) (c : Nat) : Int := if neg then -1 else if c = 0 then 0 else 1

theorem Sign_any (neg : Bool) (s c : Nat) (w : World) : Calls Tryz.prog 47 #[gd neg s c] w (VRet w (.int .i64 (gsign neg c))) := by
  cases neg
  · by_cases hc : c = 0
    · subst hc
      go_enter Tryz.func47, Tryz.ntmps47
      go_wp2
      go_ret
      exact ⟨rfl, (Keep.refl _ _).alloc _⟩
    · have t1 : ((c : Int) == 0) = false := by rw [beq_eq_false_iff_ne]; omega
      have e : gsign false c = 1 := by simp [gsign, hc]
      rw [e]
      clear hc e
      go_enter Tryz.func47, Tryz.ntmps47
      go_wp2
      go_ret
      exact ⟨rfl, (Keep.refl _ _).alloc _⟩
  · go_enter Tryz.func47, Tryz.ntmps47
    go_wp2
    go_ret
    exact ⟨rfl, (Keep.refl _ _).alloc _⟩

theorem Prec_any (neg : Bool) (s c p : Nat) (w : World) (hP : Pow10s w) (hc : c ≤ 9999999999999999999) (hp : IsPrec c p) :
    Calls Tryz.prog 53 #[gd neg s c] w (VRet w (.int .i64 p)) := by
  have H_hP := Lib.hid hP; clear hP
  have H_hp := Lib.hid hp; clear hp
  go_enter Tryz.func53, Tryz.ntmps53
  go_wp2_with (fail)
  refine (prec_any c p _ (H_hP.out.fresh ((Keep.refl _ _).alloc _)) (by omega) H_hp.out).mono ?_
  rintro e w2 ⟨rfl, hf⟩
  have H_hf := Lib.hid hf
  clear hf
  go_wp2_with (fail)
  go_ret
  exact ⟨rfl, fresh_trans ((Keep.refl _ _).alloc _) H_hf.out⟩

set_option maxRecDepth 20000 in
set_option maxHeartbeats 2000000 in
theorem IsOne_any (neg : Bool) (s c : Nat) (w : World) (hP : Pow10s w) (hs : s ≤ 19) :
    Calls Tryz.prog 49 #[gd neg s c] w (VRet w (.bool ((c : Int) == ((10 ^ s : Nat) : Int)))) := by
  obtain ⟨g, hg⟩ : ∃ g, g = w.heap.size := ⟨_, rfl⟩
  have hx0 : 0 < 10 ^ s := Nat.pow_pos (by omega)
  have hcl := hP s (by omega)
  obtain ⟨x, hx⟩ : ∃ x, x = 10 ^ s := ⟨_, rfl⟩
  rw [← hx] at hx0 hcl ⊢
  have hsI : (s : Int) < 20 := by omega
  have bx := box1 w #[.bool neg, .int .i8 s, .int .u64 c] 59 g hg
  have H_bx := Lib.hid bx; clear bx
  have H_hP := Lib.hid hP; clear hP
  have H_hx := Lib.hid hx; clear hx
  go_enter Tryz.func49, Tryz.ntmps49
  go_wp2_with (fail)
  generalize hw1 : w.alloc _ = w1
  rw [← hg]
  obtain ⟨b1, hf⟩ := H_bx.out w1 hw1
  have k0 := row_cell b1 0
  have k1 := row_cell b1 1
  have k2 := row_cell b1 2
  simp at k0 k1 k2
  have k3 := cell_fresh hcl hf
  clear hcl
  have H_b1 := Lib.hid b1; clear b1
  have H_hf := Lib.hid hf; clear hf
  have H_hw1 := Lib.hid hw1; clear hw1
  have H_hg := Lib.hid hg; clear hg
  go_region_held3 (fun (w' : World) => w'.cell? ⟨g, 0, none⟩ = some (.bool neg) ∧ w'.cell? ⟨g, 1, none⟩ = some (.int .i8 s) ∧ w'.cell? ⟨g, 2, none⟩ = some (.int .u64 c) ∧ w'.cell? ⟨0, s, none⟩ = some (.int .u64 x)) (first | exact ⟨k0, k1, k2, k3⟩ | exact ⟨m0, m1, m2, m3⟩) (first
    | (go_at_call 62; (with_reducible refine (Scale_any neg s c _ hs).mono ?_); rintro e w2 ⟨rfl, r⟩; have hy : Fresh w1 w2 := (by first | exact r | exact r.of_drew | exact r.of_drewN); have m0 := cell_fresh k0 hy; have m1 := cell_fresh k1 hy; have m2 := cell_fresh k2 hy; have m3 := cell_fresh k3 hy; have H_y2 := Lib.hid hy; clear r hy))
  go_wp2
  go_ret
  exact ⟨rfl, fresh_trans H_hf.out H_y2.out⟩

set_option maxRecDepth 20000 in
set_option maxHeartbeats 2000000 in
theorem WithinOne_any (neg : Bool) (s c : Nat) (w : World) (hP : Pow10s w) (hs : s ≤ 19) :
    Calls Tryz.prog 51 #[gd neg s c] w (VRet w (.bool (decide (c < 10 ^ s)))) := by
  obtain ⟨g, hg⟩ : ∃ g, g = w.heap.size := ⟨_, rfl⟩
  have hx0 : 0 < 10 ^ s := Nat.pow_pos (by omega)
  have hcl := hP s (by omega)
  obtain ⟨x, hx⟩ : ∃ x, x = 10 ^ s := ⟨_, rfl⟩
  rw [← hx] at hx0 hcl ⊢
  have hsI : (s : Int) < 20 := by omega
  have bx := box1 w #[.bool neg, .int .i8 s, .int .u64 c] 59 g hg
  have H_bx := Lib.hid bx; clear bx
  have H_hP := Lib.hid hP; clear hP
  have H_hx := Lib.hid hx; clear hx
  go_enter Tryz.func51, Tryz.ntmps51
  go_wp2_with (fail)
  generalize hw1 : w.alloc _ = w1
  rw [← hg]
  obtain ⟨b1, hf⟩ := H_bx.out w1 hw1
  have k0 := row_cell b1 0
  have k1 := row_cell b1 1
  have k2 := row_cell b1 2
  simp at k0 k1 k2
  have k3 := cell_fresh hcl hf
  clear hcl
  have H_b1 := Lib.hid b1; clear b1
  have H_hf := Lib.hid hf; clear hf
  have H_hw1 := Lib.hid hw1; clear hw1
  have H_hg := Lib.hid hg; clear hg
  go_region_held3 (fun (w' : World) => w'.cell? ⟨g, 0, none⟩ = some (.bool neg) ∧ w'.cell? ⟨g, 1, none⟩ = some (.int .i8 s) ∧ w'.cell? ⟨g, 2, none⟩ = some (.int .u64 c) ∧ w'.cell? ⟨0, s, none⟩ = some (.int .u64 x)) (first | exact ⟨k0, k1, k2, k3⟩ | exact ⟨m0, m1, m2, m3⟩) (first
    | (go_at_call 62; (with_reducible refine (Scale_any neg s c _ hs).mono ?_); rintro e w2 ⟨rfl, r⟩; have hy : Fresh w1 w2 := (by first | exact r | exact r.of_drew | exact r.of_drewN); have m0 := cell_fresh k0 hy; have m1 := cell_fresh k1 hy; have m2 := cell_fresh k2 hy; have m3 := cell_fresh k3 hy; have H_y2 := Lib.hid hy; clear r hy))
  go_wp2
  go_ret
  exact ⟨rfl, fresh_trans H_hf.out H_y2.out⟩

end Go.Proofs.YthemaneoighaoaaGreatDoor
