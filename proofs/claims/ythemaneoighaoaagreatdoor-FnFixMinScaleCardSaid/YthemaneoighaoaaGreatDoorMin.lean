/- The contracts of govalues' decimals: IsZero, MinScale, IsInt. -/
import Derived.Test.YthemaneoighaoaaGreatDoorPrec
import Derived.Test.YthemaneoighaoaaGreatDoorHeld
namespace Go.Proofs.YthemaneoighaoaaGreatDoor
open Go.RowKit

theorem IsZero_any (neg : Bool) (s c : Nat) (w : World) : Calls Tryz.prog 68 #[gd neg s c] w (VRet w (.bool ((c : Int) == 0))) := by
  go_enter Tryz.func68, Tryz.ntmps68
  go_wp2
  go_ret
  exact ⟨rfl, (Keep.refl _ _).alloc _⟩

set_option maxRecDepth 20000 in
theorem MinScale_zero (neg : Bool) (s : Nat) (w : World) : Calls Tryz.prog 42 #[gd neg s 0] w (VRet w (.int .i64 0)) := by
  go_enter Tryz.func42, Tryz.ntmps42
  go_wp2_with (fail)
  refine (IsZero_any _ _ _ _).mono ?_
  rintro e w2 ⟨rfl, hf⟩
  have H_hf := Lib.hid hf
  clear hf
  go_wp2_with (fail)
  go_ret
  exact ⟨rfl, fresh_trans ((Keep.refl _ _).alloc _) H_hf.out⟩

set_option maxRecDepth 20000 in
theorem MinScale_pos (neg : Bool) (s c k : Nat) (w : World) (hP : Pow10s w) (hs : s ≤ 19) (hc : c ≤ 9999999999999999999) (h0 : 0 < c) (hd : 10 ^ k ∣ c) (hn : ¬ 10 ^ (k + 1) ∣ c) :
    Calls Tryz.prog 42 #[gd neg s c] w (VRet w (.int .i64 ((s - k : Nat) : Int))) := by
  have t1 : ((c : Int) == 0) = false := by rw [beq_eq_false_iff_ne]; omega
  have hk : k ≤ 20 := by
    have h1 := pow_le_of_dvd hd h0
    rcases Nat.lt_or_ge 20 k with h | h
    · have h2 : 10 ^ 20 ≤ 10 ^ k := Nat.pow_le_pow_right (by omega) (by omega)
      omega
    · exact h
  have H_hP := Lib.hid hP; clear hP
  have H_hd := Lib.hid hd; clear hd
  have H_hn := Lib.hid hn; clear hn
  have H_h0 := Lib.hid h0; clear h0
  go_enter Tryz.func42, Tryz.ntmps42
  go_wp2_with (fail)
  refine (IsZero_any _ _ _ _).mono ?_
  rintro e w2 ⟨rfl, hf⟩
  rw [t1]
  have b := row_fresh (heap_alloc_new w _) hf
  have p0 := row_cell b 0
  have p1 := row_cell b 1
  have p2 := row_cell b 2
  simp at p0 p1 p2
  have H_f0 := Lib.hid (fresh_trans ((Keep.refl _ w).alloc _) hf)
  have H_b := Lib.hid b; clear b
  have H_hf := Lib.hid hf; clear hf
  go_wp2_with (fail)
  refine (Scale_any neg s c _ hs).mono ?_
  rintro e w3 ⟨rfl, hf3⟩
  have H_f3 := Lib.hid (fresh_trans H_f0.out hf3)
  clear hf3
  go_wp2_with (fail)
  refine (ntz_any c k _ (H_hP.out.fresh H_f3.out) (by omega) H_h0.out H_hd.out H_hn.out).mono ?_
  rintro e w4 ⟨rfl, hf4⟩
  have H_f4 := Lib.hid (fresh_trans H_f3.out hf4)
  clear hf4
  go_wp2_with (fail)
  all_goals go_ret
  all_goals first
    | (have e : ((s - k : Nat) : Int) = (s : Int) - (k : Int) := by omega
       rw [e]; exact ⟨rfl, H_f4.out⟩)
    | (have e : ((s - k : Nat) : Int) = 0 := by omega
       rw [e]; exact ⟨rfl, H_f4.out⟩)

theorem box1 (w : World) (c1 : Array Value) (T1 : TypeId) : ∀ g, g = w.heap.size → ∀ w1, w.alloc (.cells c1 T1) = w1 → w1.heap[g]? = some (.cells c1 T1 (0, 0)) ∧ Fresh w w1 := by
  rintro g rfl w1 rfl
  exact ⟨heap_alloc_new w _, (Keep.refl _ _).alloc _⟩

set_option maxRecDepth 20000 in
set_option maxHeartbeats 1000000 in
theorem IsInt_zero (neg : Bool) (c : Nat) (w : World) (hP : Pow10s w) : Calls Tryz.prog 44 #[gd neg 0 c] w (VRet w (.bool true)) := by
  obtain ⟨g, hg⟩ : ∃ g, g = w.heap.size := ⟨_, rfl⟩
  have hcl := hP 0 (by omega)
  obtain ⟨x, hx⟩ : ∃ x, x = 10 ^ 0 := ⟨_, rfl⟩
  rw [← hx] at hcl
  have bx := box1 w #[.bool neg, .int .i8 0, .int .u64 c] 59 g hg
  have H_bx := Lib.hid bx; clear bx
  have H_hP := Lib.hid hP; clear hP
  have H_hx := Lib.hid hx; clear hx
  go_enter Tryz.func44, Tryz.ntmps44
  go_wp2_with (fail)
  generalize hw1 : w.alloc _ = w1
  rw [← hg]
  obtain ⟨b1, hf⟩ := H_bx.out w1 hw1
  have k0 := row_cell b1 0
  have k1 := row_cell b1 1
  have k2 := row_cell b1 2
  simp at k0 k1 k2
  have k3 := cell_fresh hcl hf
  clear hcl
  have H_b1 := Lib.hid b1; clear b1
  have H_hf := Lib.hid hf; clear hf
  have H_hw1 := Lib.hid hw1; clear hw1
  have H_hg := Lib.hid hg; clear hg
  refine wp_region_E (S := (fun (w' : World) => w'.cell? ⟨g, 0, none⟩ = some (.bool neg) ∧ w'.cell? ⟨g, 1, none⟩ = some (.int .i8 0) ∧ w'.cell? ⟨g, 2, none⟩ = some (.int .u64 c) ∧ w'.cell? ⟨0, 0, none⟩ = some (.int .u64 x))) 13 (by kernel_rfl) (by exact ⟨k0, k1, k2, k3⟩) (fun hHeld => ?_)
  refine wpAnyE_takeL (i := 0) (c := 1) (v := ?v0_1) rfl (by kernel_rfl) (fun _ _ _ h => h) ⟨by rfl, ?y0_1⟩ (by assumption) ?r0_1
  case y0_1 => (intro w hSw; go_split_ands; go_simp; try with_reducible rfl)
  try simp only [Act.put, List.getElem_toArray, List.getElem_cons_zero, List.getElem_cons_succ, List.setIfInBounds_toArray, List.set_cons_zero, List.set_cons_succ]
  refine wpAnyE_one (i := 1) rfl (by kernel_rfl) (fun K hK => ?_)
  go_simp
  refine (Scale_any neg 0 c _ (by omega)).mono ?_; rintro e w2 ⟨rfl, r⟩; have hy : Fresh w1 w2 := r.of_drew; have m0 := cell_fresh k0 hy; have m1 := cell_fresh k1 hy; have m2 := cell_fresh k2 hy; have m3 := cell_fresh k3 hy; have H_y2 := Lib.hid hy; clear r hy
  go_wp2_with (fail)
  have hHeld1 : ((fun (w' : World) => w'.cell? ⟨g, 0, none⟩ = some (.bool neg) ∧ w'.cell? ⟨g, 1, none⟩ = some (.int .i8 0) ∧ w'.cell? ⟨g, 2, none⟩ = some (.int .u64 c) ∧ w'.cell? ⟨0, 0, none⟩ = some (.int .u64 x))) _ := ⟨m0, m1, m2, m3⟩
  refine hK.out _ _ (fun _ => hHeld1) ?_
  clear hK K
  try simp only [Act.put, List.getElem_toArray, List.getElem_cons_zero, List.getElem_cons_succ, List.setIfInBounds_toArray, List.set_cons_zero, List.set_cons_succ]
  refine wpAnyE_takeP (i := 2) (v := .bool true) rfl (by kernel_rfl) (fun _ _ _ h => h) ⟨by rfl, ?y2_1⟩ (by assumption) ?r2_1
  case y2_1 => (intro w; go_simp)
  try simp only [Act.put, List.getElem_toArray, List.getElem_cons_zero, List.getElem_cons_succ, List.setIfInBounds_toArray, List.set_cons_zero, List.set_cons_succ]
  refine wpAnyE_takeP (i := 3) (v := .bool true) rfl (by kernel_rfl) (fun _ _ _ h => h) ⟨by rfl, ?y3_1⟩ (by assumption) ?r3_1
  case y3_1 => (intro w; go_simp)
  try simp only [Act.put, List.getElem_toArray, List.getElem_cons_zero, List.getElem_cons_succ, List.setIfInBounds_toArray, List.set_cons_zero, List.set_cons_succ]
  refine wpAnyE_takeU (i := 4) rfl (by kernel_rfl) (fun _ _ _ h => h) (by rfl) (by assumption) ?_
  try simp only [Act.put, List.getElem_toArray, List.getElem_cons_zero, List.getElem_cons_succ, List.setIfInBounds_toArray, List.set_cons_zero, List.set_cons_succ]
  refine wpAnyE_takeU (i := 5) rfl (by kernel_rfl) (fun _ _ _ h => h) (by rfl) (by assumption) ?_
  try simp only [Act.put, List.getElem_toArray, List.getElem_cons_zero, List.getElem_cons_succ, List.setIfInBounds_toArray, List.set_cons_zero, List.set_cons_succ]
  refine wpAnyE_takeU (i := 6) rfl (by kernel_rfl) (fun _ _ _ h => h) (by rfl) (by assumption) ?_
  try simp only [Act.put, List.getElem_toArray, List.getElem_cons_zero, List.getElem_cons_succ, List.setIfInBounds_toArray, List.set_cons_zero, List.set_cons_succ]
  refine wpAnyE_takeU (i := 7) rfl (by kernel_rfl) (fun _ _ _ h => h) (by rfl) (by assumption) ?_
  try simp only [Act.put, List.getElem_toArray, List.getElem_cons_zero, List.getElem_cons_succ, List.setIfInBounds_toArray, List.set_cons_zero, List.set_cons_succ]
  refine wpAnyE_takeU (i := 8) rfl (by kernel_rfl) (fun _ _ _ h => h) (by rfl) (by assumption) ?_
  try simp only [Act.put, List.getElem_toArray, List.getElem_cons_zero, List.getElem_cons_succ, List.setIfInBounds_toArray, List.set_cons_zero, List.set_cons_succ]
  refine wpAnyE_takeU (i := 9) rfl (by kernel_rfl) (fun _ _ _ h => h) (by rfl) (by assumption) ?_
  try simp only [Act.put, List.getElem_toArray, List.getElem_cons_zero, List.getElem_cons_succ, List.setIfInBounds_toArray, List.set_cons_zero, List.set_cons_succ]
  refine wpAnyE_takeU (i := 10) rfl (by kernel_rfl) (fun _ _ _ h => h) (by rfl) (by assumption) ?_
  try simp only [Act.put, List.getElem_toArray, List.getElem_cons_zero, List.getElem_cons_succ, List.setIfInBounds_toArray, List.set_cons_zero, List.set_cons_succ]
  refine wpAnyE_takeU (i := 11) rfl (by kernel_rfl) (fun _ _ _ h => h) (by rfl) (by assumption) ?_
  try simp only [Act.put, List.getElem_toArray, List.getElem_cons_zero, List.getElem_cons_succ, List.setIfInBounds_toArray, List.set_cons_zero, List.set_cons_succ]
  refine wpAnyE_takeP (i := 12) (v := .bool true) rfl (by kernel_rfl) (fun _ _ _ h => h) ⟨by rfl, ?y12_1⟩ (by assumption) ?r12_1
  case y12_1 => (intro w; go_simp)
  try simp only [Act.put, List.getElem_toArray, List.getElem_cons_zero, List.getElem_cons_succ, List.setIfInBounds_toArray, List.set_cons_zero, List.set_cons_succ]
  refine wpAnyE_one (i := 13) rfl (by kernel_rfl) (fun K hK => ?_)
  go_simp
  refine hK.out _ _ (fun h => Bool.noConfusion (show true = false from h)) ?_
  clear hK K
  try simp only [Act.put, List.getElem_toArray, List.getElem_cons_zero, List.getElem_cons_succ, List.setIfInBounds_toArray, List.set_cons_zero, List.set_cons_succ]
  refine wpAnyE_done (by kernel_rfl) ?_ _
  go_wp2
  go_ret
  exact ⟨rfl, fresh_trans H_hf.out H_y2.out⟩

set_option maxRecDepth 20000 in
set_option maxHeartbeats 2000000 in
theorem IsInt_pos (neg : Bool) (s c : Nat) (w : World) (hP : Pow10s w) (hs : s ≤ 19) (h0 : 0 < s) (hc : c ≤ 9999999999999999999) :
    Calls Tryz.prog 44 #[gd neg s c] w (VRet w (.bool (((c % 10 ^ s : Nat) : Int) == 0))) := by
  obtain ⟨g, hg⟩ : ∃ g, g = w.heap.size := ⟨_, rfl⟩
  have hx0 : 0 < 10 ^ s := Nat.pow_pos (by omega)
  have hcl := hP s (by omega)
  obtain ⟨x, hx⟩ : ∃ x, x = 10 ^ s := ⟨_, rfl⟩
  rw [← hx] at hx0 hcl ⊢
  have t0 : ((x : Int) == 0) = false := by rw [beq_eq_false_iff_ne]; omega
  have t1 : ((s : Int) == 0) = false := by rw [beq_eq_false_iff_ne]; omega
  have hsI : (s : Int) < 20 := by omega
  have hxI : ¬ ((x : Int) = 0) := by omega
  have hr : Int.tmod (c : Int) (x : Int) = ((c % x : Nat) : Int) := by rw [Int.tmod_eq_emod_of_nonneg (by omega)]; rfl
  have hrlt : c % x ≤ c := Nat.mod_le _ _
  generalize c % x = y at *
  have hxN : ¬ x = 0 := by omega
  have bx := box1 w #[.bool neg, .int .i8 s, .int .u64 c] 59 g hg
  have H_bx := Lib.hid bx; clear bx
  have H_hP := Lib.hid hP; clear hP
  have H_hx := Lib.hid hx; clear hx
  go_enter Tryz.func44, Tryz.ntmps44
  go_wp2_with (fail)
  generalize hw1 : w.alloc _ = w1
  rw [← hg]
  obtain ⟨b1, hf⟩ := H_bx.out w1 hw1
  have k0 := row_cell b1 0
  have k1 := row_cell b1 1
  have k2 := row_cell b1 2
  simp at k0 k1 k2
  have k3 := cell_fresh hcl hf
  clear hcl
  have H_b1 := Lib.hid b1; clear b1
  have H_hf := Lib.hid hf; clear hf
  have H_hw1 := Lib.hid hw1; clear hw1
  have H_hg := Lib.hid hg; clear hg
  go_region_held3 (fun (w' : World) => w'.cell? ⟨g, 0, none⟩ = some (.bool neg) ∧ w'.cell? ⟨g, 1, none⟩ = some (.int .i8 s) ∧ w'.cell? ⟨g, 2, none⟩ = some (.int .u64 c) ∧ w'.cell? ⟨0, s, none⟩ = some (.int .u64 x)) (first | exact ⟨k0, k1, k2, k3⟩ | exact ⟨m0, m1, m2, m3⟩ | exact ⟨n0, n1, n2, n3⟩) (first
    | (go_at_call 62; (with_reducible refine (Scale_any neg s c _ hs).mono ?_); rintro e w2 ⟨rfl, r⟩; have hy : Fresh w1 w2 := (by first | exact r | exact r.of_drew | exact r.of_drewN); have m0 := cell_fresh k0 hy; have m1 := cell_fresh k1 hy; have m2 := cell_fresh k2 hy; have m3 := cell_fresh k3 hy; have H_y2 := Lib.hid hy; clear r hy)
    | (go_at_call 62; (with_reducible refine (Scale_any neg s c _ hs).mono ?_); rintro e w3 ⟨rfl, r⟩; have hy : Fresh w2 w3 := (by first | exact r | exact r.of_drew | exact r.of_drewN); have n0 := cell_fresh m0 hy; have n1 := cell_fresh m1 hy; have n2 := cell_fresh m2 hy; have n3 := cell_fresh m3 hy; have H_y3 := Lib.hid hy; clear r hy))
  go_wp2
  go_ret
  exact ⟨rfl, fresh_trans (fresh_trans H_hf.out H_y2.out) H_y3.out⟩

end Go.Proofs.YthemaneoighaoaaGreatDoor
