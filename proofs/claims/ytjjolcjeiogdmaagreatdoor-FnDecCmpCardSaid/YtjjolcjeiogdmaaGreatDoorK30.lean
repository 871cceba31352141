/- shopspring: Decimal.Sign, Decimal.Cmp, and the orders. Printed by gen_dcb.py. -/
import Derived.Test.YtjjolcjeiogdmaaGreatDoorK9
import Derived.Test.YtjjolcjeiogdmaaGreatDoorK20
import Derived.Test.YtjjolcjeiogdmaaGreatDoorK29
namespace Go.Proofs.YtjjolcjeiogdmaaGreatDoor
open Go.RowKit

def sgnI (z : Int) : Int := if z = 0 then 0 else if z < 0 then -1 else 1

set_option maxRecDepth 20000 in
set_option maxHeartbeats 2000000 in
theorem DecSign_z (b : Nat) (v : Value) (z e : Int) (w : World) (hx : ZI w b v z) :
    Calls Tryz.prog 49 #[sd b e] w (fun r w' => r = .returned (.int .i64 (sgnI z)) ∧ Fresh w w') := by
  have hgv := fun W => getValue_any b e W
  have hsg := fun W (hW : Fresh w W) => IntSign_z b v z W (hx.fresh hW)
  obtain ⟨g, hg⟩ : ∃ g, g = w.heap.size := ⟨_, rfl⟩
  have hnew : ∀ W, w.alloc (.cells #[.pointer (some ⟨b, 0, none⟩), .int .i32 e] 49 (0, 0)) = W → W.heap[g]? = some (.cells #[.pointer (some ⟨b, 0, none⟩), .int .i32 e] 49 (0, 0)) ∧ Fresh w W := by
    rintro W rfl
    exact ⟨by rw [hg]; exact heap_alloc_new w _, (Keep.refl _ _).alloc _⟩
  unfold sgnI
  generalize (if z = 0 then (0 : Int) else if z < 0 then -1 else 1) = s at *
  have H_hgv := Lib.hid hgv; clear hgv
  have H_hsg := Lib.hid hsg; clear hsg
  have H_hnew := Lib.hid hnew; clear hnew
  have H_hx := Lib.hid hx; clear hx
  go_enter Tryz.func49, Tryz.ntmps49
  go_wp2_with (fail)
  generalize hw1 : w.alloc _ = w1
  rw [← hg]
  obtain ⟨r1, hf⟩ := H_hnew.out w1 hw1
  have k0 := row_cell r1 0
  have k1 := row_cell r1 1
  simp at k0 k1
  have H_r1 := Lib.hid r1; clear r1
  have H_hf := Lib.hid hf; clear hf
  have H_hw1 := Lib.hid hw1; clear hw1
  have H_hg := Lib.hid hg; clear hg
  go_wp2_with (fail)
  refine (H_hgv.out _).mono ?_
  rintro r w2 ⟨rfl, f2⟩
  have f2 := fresh_trans H_hf.out f2
  clear k0 k1
  have H_f2 := Lib.hid f2; clear f2
  go_wp2_with (fail)
  refine (H_hsg.out _ H_f2.out).mono ?_
  rintro r w3 ⟨rfl, hw3⟩
  obtain rfl : w2 = w3 := hw3.symm
  go_wp2_with (fail)
  go_ret
  exact ⟨rfl, H_f2.out⟩

set_option maxRecDepth 20000 in
set_option maxHeartbeats 4000000 in
theorem DCmp_eq (b1 b2 : Nat) (v1 v2 : Value) (z1 z2 e1 e2 : Int) (w : World) (hG : Glob w) (hz1 : z1.natAbs < wpow 7) (hz2 : z2.natAbs < wpow 7) (hx : ZI w b1 v1 z1) (hy : ZI w b2 v2 z2) (hne : b1 ≠ b2)
    (he1 : -400 ≤ e1 ∧ e1 ≤ 400) (he2 : -400 ≤ e2 ∧ e2 ≤ 400) (hd : e1 - e2 ≤ 127 ∧ e2 - e1 ≤ 127) (he : e1 = e2) :
    Calls Tryz.prog 22 #[sd b1 e1, sd b2 e2] w (fun r w' => r = .returned (.int .i64 (cmpZ z1 z2)) ∧ Fresh w w') := by
  subst he
  have hgv1 := fun W => getValue_any b1 e1 W
  have hgv2 := fun W => getValue_any b2 e1 W
  have hcm := fun W (hW : Fresh w W) => IntCmp_z b1 b2 v1 v2 z1 z2 W (Nat.lt_of_lt_of_le hz1 (wpow_mono (by omega))) (Nat.lt_of_lt_of_le hz2 (wpow_mono (by omega))) hne (hx.fresh hW) (hy.fresh hW)
  generalize cmpZ z1 z2 = c at *
  obtain ⟨g, hg⟩ : ∃ g, g = w.heap.size := ⟨_, rfl⟩
  have bx := boxes2 w #[.pointer (some ⟨b1, 0, none⟩), .int .i32 e1] #[.pointer (some ⟨b2, 0, none⟩), .int .i32 e1] 49 49 g hg
  have H_bx := Lib.hid bx; clear bx
  have H_hgv1 := Lib.hid hgv1; clear hgv1
  have H_hgv2 := Lib.hid hgv2; clear hgv2
  have H_hcm := Lib.hid hcm; clear hcm
  have H_hx := Lib.hid hx; clear hx
  have H_hy := Lib.hid hy; clear hy
  have H_hG := Lib.hid hG; clear hG
  have H_hz1 := Lib.hid hz1; clear hz1
  have H_hz2 := Lib.hid hz2; clear hz2
  have H_hne := Lib.hid hne; clear hne
  have H_he1 := Lib.hid he1; clear he1
  have H_he2 := Lib.hid he2; clear he2
  have H_hd := Lib.hid hd; clear hd
  go_enter Tryz.func22, Tryz.ntmps22
  go_wp2_with (fail)
  generalize hw1 : (w.alloc _).alloc _ = w1
  rw [← hg]
  obtain ⟨r1, r2, hf⟩ := H_bx.out w1 hw1
  have k0 := row_cell r1 0
  have k1 := row_cell r1 1
  have k2 := row_cell r2 0
  have k3 := row_cell r2 1
  simp at k0 k1 k2 k3
  have H_r1 := Lib.hid r1; clear r1
  have H_r2 := Lib.hid r2; clear r2
  have H_hf := Lib.hid hf; clear hf
  have H_hw1 := Lib.hid hw1; clear hw1
  have H_hg := Lib.hid hg; clear hg
  go_wp2_with (fail)
  refine wp_region_E (S := (fun (w' : World) => w'.cell? ⟨g, 0, none⟩ = some (.pointer (some ⟨b1, 0, none⟩)) ∧ w'.cell? ⟨g, 1, none⟩ = some (.int .i32 e1) ∧ w'.cell? ⟨g + 1, 0, none⟩ = some (.pointer (some ⟨b2, 0, none⟩)) ∧ w'.cell? ⟨g + 1, 1, none⟩ = some (.int .i32 e1))) 5 (by kernel_rfl) (by exact ⟨k0, k1, k2, k3⟩) (fun hHeld => ?_)
  refine wpAnyE_takeL (i := 0) (c := 1) (v := ?v0_1) rfl (by kernel_rfl) (fun _ _ _ h => h) ⟨by rfl, ?y0_1⟩ (by assumption) ?r0_1
  case y0_1 => (intro w hSw; go_split_ands; go_simp; try with_reducible rfl)
  try simp only [Act.put, yA, yB, yD, yE, yF]
  refine wpAnyE_takeL (i := 2) (c := 3) (v := ?v2_1) rfl (by kernel_rfl) (fun _ _ _ h => h) ⟨by rfl, ?y2_1⟩ (by assumption) ?r2_1
  case y2_1 => (intro w hSw; go_split_ands; go_simp; try with_reducible rfl)
  try simp only [Act.put, yA, yB, yC, yD, yE, yF]
  refine wpAnyE_one (i := 1) rfl (by kernel_rfl) (fun K hK => ?_)
  go_simp
  refine (H_hgv1.out _).mono ?_; rintro r w2 ⟨rfl, y⟩; have f2 : Fresh w1 w2 := y.of_drew; have j0 := cell_fresh k0 f2; have j1 := cell_fresh k1 f2; have j2 := cell_fresh k2 f2; have j3 := cell_fresh k3 f2; have H_f2 := Lib.hid f2; clear y f2
  go_wp2_with (fail)
  have hHeld1 : ((fun (w' : World) => w'.cell? ⟨g, 0, none⟩ = some (.pointer (some ⟨b1, 0, none⟩)) ∧ w'.cell? ⟨g, 1, none⟩ = some (.int .i32 e1) ∧ w'.cell? ⟨g + 1, 0, none⟩ = some (.pointer (some ⟨b2, 0, none⟩)) ∧ w'.cell? ⟨g + 1, 1, none⟩ = some (.int .i32 e1))) _ := ⟨j0, j1, j2, j3⟩
  refine hK.out _ _ (fun _ => hHeld1) ?_
  clear hK K
  try simp only [Act.put, yA, yB, yC, yD, yE, yF]
  refine wpAnyE_one (i := 3) rfl (by kernel_rfl) (fun K hK => ?_)
  go_simp
  refine (H_hgv2.out _).mono ?_; rintro r w3 ⟨rfl, y⟩; have f3 := fresh_trans H_f2.out y; have n0 := cell_fresh k0 f3; have n1 := cell_fresh k1 f3; have n2 := cell_fresh k2 f3; have n3 := cell_fresh k3 f3; have H_f3 := Lib.hid f3; clear y f3
  go_wp2_with (fail)
  have hHeld2 : ((fun (w' : World) => w'.cell? ⟨g, 0, none⟩ = some (.pointer (some ⟨b1, 0, none⟩)) ∧ w'.cell? ⟨g, 1, none⟩ = some (.int .i32 e1) ∧ w'.cell? ⟨g + 1, 0, none⟩ = some (.pointer (some ⟨b2, 0, none⟩)) ∧ w'.cell? ⟨g + 1, 1, none⟩ = some (.int .i32 e1))) _ := ⟨n0, n1, n2, n3⟩
  refine hK.out _ _ (fun _ => hHeld2) ?_
  clear hK K
  try simp only [Act.put, yA, yB, yC, yD, yE, yF]
  refine wpAnyE_one (i := 4) rfl (by kernel_rfl) (fun K hK => ?_)
  go_simp
  refine (H_hcm.out _ (fresh_trans H_hf.out H_f3.out)).mono ?_; rintro r w4 ⟨rfl, hq⟩; have f4 : Fresh w1 w4 := (by obtain ⟨q, rfl⟩ := hq; exact H_f3.out.drewN q); have u0 := cell_fresh k0 f4; have u1 := cell_fresh k1 f4; have u2 := cell_fresh k2 f4; have u3 := cell_fresh k3 f4; have H_f4 := Lib.hid f4; clear hq f4
  go_wp2_with (fail)
  have hHeld3 : ((fun (w' : World) => w'.cell? ⟨g, 0, none⟩ = some (.pointer (some ⟨b1, 0, none⟩)) ∧ w'.cell? ⟨g, 1, none⟩ = some (.int .i32 e1) ∧ w'.cell? ⟨g + 1, 0, none⟩ = some (.pointer (some ⟨b2, 0, none⟩)) ∧ w'.cell? ⟨g + 1, 1, none⟩ = some (.int .i32 e1))) _ := ⟨u0, u1, u2, u3⟩
  refine hK.out _ _ (fun _ => hHeld3) ?_
  clear hK K
  try simp only [Act.put, yA, yB, yC, yD, yE, yF]
  refine wpAnyE_one (i := 5) rfl (by kernel_rfl) (fun K hK => ?_)
  go_simp
  refine hK.out _ _ (fun h => Bool.noConfusion (show true = false from h)) ?_
  clear hK K
  try simp only [Act.put, yA, yB, yC, yD, yE, yF]
  refine wpAnyE_done (by kernel_rfl) ?_ _
  go_wp2_with (fail)
  go_ret
  exact ⟨rfl, fresh_trans H_hf.out H_f4.out⟩

set_option maxRecDepth 20000 in
set_option maxHeartbeats 4000000 in
theorem DCmp_more (b1 b2 : Nat) (v1 v2 : Value) (z1 z2 e1 e2 : Int) (w : World) (hG : Glob w) (hz1 : z1.natAbs < wpow 7) (hz2 : z2.natAbs < wpow 7) (hx : ZI w b1 v1 z1) (hy : ZI w b2 v2 z2) (hne : b1 ≠ b2)
    (he1 : -400 ≤ e1 ∧ e1 ≤ 400) (he2 : -400 ≤ e2 ∧ e2 ≤ 400) (hd : e1 - e2 ≤ 127 ∧ e2 - e1 ≤ 127) (he : e1 ≠ e2) (hs : sgnI z2 < sgnI z1) :
    Calls Tryz.prog 22 #[sd b1 e1, sd b2 e2] w (fun r w' => r = .returned (.int .i64 (1)) ∧ Fresh w w') := by
  have hsg1 := fun W (hW : Fresh w W) => DecSign_z b1 v1 z1 e1 W (hx.fresh hW)
  have hsg2 := fun W (hW : Fresh w W) => DecSign_z b2 v2 z2 e2 W (hy.fresh hW)
  have t1 : (e1 == e2) = false := by rw [beq_eq_false_iff_ne]; exact he
  generalize sgnI z1 = a at *
  generalize sgnI z2 = b at *
  have t2 : (a == b) = false := by rw [beq_eq_false_iff_ne]; omega
  have t3 : ¬ a = b := by omega
  have t4 : decide (b < a) = true := by simpa using hs
  obtain ⟨g, hg⟩ : ∃ g, g = w.heap.size := ⟨_, rfl⟩
  have bx := boxes2 w #[.pointer (some ⟨b1, 0, none⟩), .int .i32 e1] #[.pointer (some ⟨b2, 0, none⟩), .int .i32 e2] 49 49 g hg
  have H_bx := Lib.hid bx; clear bx
  have H_hsg1 := Lib.hid hsg1; clear hsg1
  have H_hsg2 := Lib.hid hsg2; clear hsg2
  have H_hx := Lib.hid hx; clear hx
  have H_hy := Lib.hid hy; clear hy
  have H_hG := Lib.hid hG; clear hG
  have H_hz1 := Lib.hid hz1; clear hz1
  have H_hz2 := Lib.hid hz2; clear hz2
  have H_hne := Lib.hid hne; clear hne
  have H_he1 := Lib.hid he1; clear he1
  have H_he2 := Lib.hid he2; clear he2
  have H_hd := Lib.hid hd; clear hd
  go_enter Tryz.func22, Tryz.ntmps22
  go_wp2_with (fail)
  generalize hw1 : (w.alloc _).alloc _ = w1
  rw [← hg]
  obtain ⟨r1, r2, hf⟩ := H_bx.out w1 hw1
  have k0 := row_cell r1 0
  have k1 := row_cell r1 1
  have k2 := row_cell r2 0
  have k3 := row_cell r2 1
  simp at k0 k1 k2 k3
  have H_r1 := Lib.hid r1; clear r1
  have H_r2 := Lib.hid r2; clear r2
  have H_hf := Lib.hid hf; clear hf
  have H_hw1 := Lib.hid hw1; clear hw1
  have H_hg := Lib.hid hg; clear hg
  go_wp2_with (fail)
  refine wp_region_E (S := (fun (w' : World) => w'.cell? ⟨g, 0, none⟩ = some (.pointer (some ⟨b1, 0, none⟩)) ∧ w'.cell? ⟨g, 1, none⟩ = some (.int .i32 e1) ∧ w'.cell? ⟨g + 1, 0, none⟩ = some (.pointer (some ⟨b2, 0, none⟩)) ∧ w'.cell? ⟨g + 1, 1, none⟩ = some (.int .i32 e2))) 5 (by kernel_rfl) (by exact ⟨k0, k1, k2, k3⟩) (fun hHeld => ?_)
  refine wpAnyE_takeL (i := 0) (c := 1) (v := ?v0_2) rfl (by kernel_rfl) (fun _ _ _ h => h) ⟨by rfl, ?y0_2⟩ (by assumption) ?r0_2
  case y0_2 => (intro w hSw; go_split_ands; go_simp; try with_reducible rfl)
  try simp only [Act.put, yA, yB, yD, yE, yF]
  refine wpAnyE_takeL (i := 2) (c := 3) (v := ?v2_2) rfl (by kernel_rfl) (fun _ _ _ h => h) ⟨by rfl, ?y2_2⟩ (by assumption) ?r2_2
  case y2_2 => (intro w hSw; go_split_ands; go_simp; try with_reducible rfl)
  try simp only [Act.put, yA, yB, yC, yD, yE, yF]
  refine wpAnyE_one (i := 1) rfl (by kernel_rfl) (fun K hK => ?_)
  go_simp
  refine (H_hsg1.out _ H_hf.out.drew).mono ?_; rintro r w2 ⟨rfl, y⟩; have f2 : Fresh w1 w2 := y.of_drew; have j0 := cell_fresh k0 f2; have j1 := cell_fresh k1 f2; have j2 := cell_fresh k2 f2; have j3 := cell_fresh k3 f2; have H_f2 := Lib.hid f2; clear y f2
  go_wp2_with (fail)
  have hHeld1 : ((fun (w' : World) => w'.cell? ⟨g, 0, none⟩ = some (.pointer (some ⟨b1, 0, none⟩)) ∧ w'.cell? ⟨g, 1, none⟩ = some (.int .i32 e1) ∧ w'.cell? ⟨g + 1, 0, none⟩ = some (.pointer (some ⟨b2, 0, none⟩)) ∧ w'.cell? ⟨g + 1, 1, none⟩ = some (.int .i32 e2))) _ := ⟨j0, j1, j2, j3⟩
  refine hK.out _ _ (fun _ => hHeld1) ?_
  clear hK K
  try simp only [Act.put, yA, yB, yC, yD, yE, yF]
  refine wpAnyE_one (i := 3) rfl (by kernel_rfl) (fun K hK => ?_)
  go_simp
  refine (H_hsg2.out _ (fresh_trans H_hf.out H_f2.out)).mono ?_; rintro r w3 ⟨rfl, y⟩; have f3 := fresh_trans H_f2.out y; have n0 := cell_fresh k0 f3; have n1 := cell_fresh k1 f3; have n2 := cell_fresh k2 f3; have n3 := cell_fresh k3 f3; have H_f3 := Lib.hid f3; clear y f3
  go_wp2_with (fail)
  have hHeld2 : ((fun (w' : World) => w'.cell? ⟨g, 0, none⟩ = some (.pointer (some ⟨b1, 0, none⟩)) ∧ w'.cell? ⟨g, 1, none⟩ = some (.int .i32 e1) ∧ w'.cell? ⟨g + 1, 0, none⟩ = some (.pointer (some ⟨b2, 0, none⟩)) ∧ w'.cell? ⟨g + 1, 1, none⟩ = some (.int .i32 e2))) _ := ⟨n0, n1, n2, n3⟩
  refine hK.out _ _ (fun _ => hHeld2) ?_
  clear hK K
  try simp only [Act.put, yA, yB, yC, yD, yE, yF]
  refine wpAnyE_takeP (i := 4) (v := ?v4_2) rfl (by kernel_rfl) (fun _ _ _ h => h) ⟨by rfl, ?y4_2⟩ (by assumption) ?r4_2
  case y4_2 => (intro w; go_simp; try with_reducible rfl)
  try simp only [Act.put, yA, yB, yC, yD, yE, yF]
  refine wpAnyE_one (i := 5) rfl (by kernel_rfl) (fun K hK => ?_)
  go_simp
  refine hK.out _ _ (fun h => Bool.noConfusion (show true = false from h)) ?_
  clear hK K
  try simp only [Act.put, yA, yB, yC, yD, yE, yF]
  refine wpAnyE_done (by kernel_rfl) ?_ _
  go_wp2_with (fail)
  go_ret
  exact ⟨rfl, fresh_trans H_hf.out H_f3.out⟩

set_option maxRecDepth 20000 in
set_option maxHeartbeats 4000000 in
theorem DCmp_less (b1 b2 : Nat) (v1 v2 : Value) (z1 z2 e1 e2 : Int) (w : World) (hG : Glob w) (hz1 : z1.natAbs < wpow 7) (hz2 : z2.natAbs < wpow 7) (hx : ZI w b1 v1 z1) (hy : ZI w b2 v2 z2) (hne : b1 ≠ b2)
    (he1 : -400 ≤ e1 ∧ e1 ≤ 400) (he2 : -400 ≤ e2 ∧ e2 ≤ 400) (hd : e1 - e2 ≤ 127 ∧ e2 - e1 ≤ 127) (he : e1 ≠ e2) (hs : sgnI z1 < sgnI z2) :
    Calls Tryz.prog 22 #[sd b1 e1, sd b2 e2] w (fun r w' => r = .returned (.int .i64 (-1)) ∧ Fresh w w') := by
  have hsg1 := fun W (hW : Fresh w W) => DecSign_z b1 v1 z1 e1 W (hx.fresh hW)
  have hsg2 := fun W (hW : Fresh w W) => DecSign_z b2 v2 z2 e2 W (hy.fresh hW)
  have t1 : (e1 == e2) = false := by rw [beq_eq_false_iff_ne]; exact he
  generalize sgnI z1 = a at *
  generalize sgnI z2 = b at *
  have t2 : (a == b) = false := by rw [beq_eq_false_iff_ne]; omega
  have t3 : ¬ a = b := by omega
  have t4 : decide (b < a) = false := by simp; omega
  have t5 : ¬ b < a := by omega
  obtain ⟨g, hg⟩ : ∃ g, g = w.heap.size := ⟨_, rfl⟩
  have bx := boxes2 w #[.pointer (some ⟨b1, 0, none⟩), .int .i32 e1] #[.pointer (some ⟨b2, 0, none⟩), .int .i32 e2] 49 49 g hg
  have H_bx := Lib.hid bx; clear bx
  have H_hsg1 := Lib.hid hsg1; clear hsg1
  have H_hsg2 := Lib.hid hsg2; clear hsg2
  have H_hx := Lib.hid hx; clear hx
  have H_hy := Lib.hid hy; clear hy
  have H_hG := Lib.hid hG; clear hG
  have H_hz1 := Lib.hid hz1; clear hz1
  have H_hz2 := Lib.hid hz2; clear hz2
  have H_hne := Lib.hid hne; clear hne
  have H_he1 := Lib.hid he1; clear he1
  have H_he2 := Lib.hid he2; clear he2
  have H_hd := Lib.hid hd; clear hd
  go_enter Tryz.func22, Tryz.ntmps22
  go_wp2_with (fail)
  generalize hw1 : (w.alloc _).alloc _ = w1
  rw [← hg]
  obtain ⟨r1, r2, hf⟩ := H_bx.out w1 hw1
  have k0 := row_cell r1 0
  have k1 := row_cell r1 1
  have k2 := row_cell r2 0
  have k3 := row_cell r2 1
  simp at k0 k1 k2 k3
  have H_r1 := Lib.hid r1; clear r1
  have H_r2 := Lib.hid r2; clear r2
  have H_hf := Lib.hid hf; clear hf
  have H_hw1 := Lib.hid hw1; clear hw1
  have H_hg := Lib.hid hg; clear hg
  go_wp2_with (fail)
  refine wp_region_E (S := (fun (w' : World) => w'.cell? ⟨g, 0, none⟩ = some (.pointer (some ⟨b1, 0, none⟩)) ∧ w'.cell? ⟨g, 1, none⟩ = some (.int .i32 e1) ∧ w'.cell? ⟨g + 1, 0, none⟩ = some (.pointer (some ⟨b2, 0, none⟩)) ∧ w'.cell? ⟨g + 1, 1, none⟩ = some (.int .i32 e2))) 5 (by kernel_rfl) (by exact ⟨k0, k1, k2, k3⟩) (fun hHeld => ?_)
  refine wpAnyE_takeL (i := 0) (c := 1) (v := ?v0_3) rfl (by kernel_rfl) (fun _ _ _ h => h) ⟨by rfl, ?y0_3⟩ (by assumption) ?r0_3
  case y0_3 => (intro w hSw; go_split_ands; go_simp; try with_reducible rfl)
  try simp only [Act.put, yA, yB, yD, yE, yF]
  refine wpAnyE_takeL (i := 2) (c := 3) (v := ?v2_3) rfl (by kernel_rfl) (fun _ _ _ h => h) ⟨by rfl, ?y2_3⟩ (by assumption) ?r2_3
  case y2_3 => (intro w hSw; go_split_ands; go_simp; try with_reducible rfl)
  try simp only [Act.put, yA, yB, yC, yD, yE, yF]
  refine wpAnyE_one (i := 1) rfl (by kernel_rfl) (fun K hK => ?_)
  go_simp
  refine (H_hsg1.out _ H_hf.out.drew).mono ?_; rintro r w2 ⟨rfl, y⟩; have f2 : Fresh w1 w2 := y.of_drew; have j0 := cell_fresh k0 f2; have j1 := cell_fresh k1 f2; have j2 := cell_fresh k2 f2; have j3 := cell_fresh k3 f2; have H_f2 := Lib.hid f2; clear y f2
  go_wp2_with (fail)
  have hHeld1 : ((fun (w' : World) => w'.cell? ⟨g, 0, none⟩ = some (.pointer (some ⟨b1, 0, none⟩)) ∧ w'.cell? ⟨g, 1, none⟩ = some (.int .i32 e1) ∧ w'.cell? ⟨g + 1, 0, none⟩ = some (.pointer (some ⟨b2, 0, none⟩)) ∧ w'.cell? ⟨g + 1, 1, none⟩ = some (.int .i32 e2))) _ := ⟨j0, j1, j2, j3⟩
  refine hK.out _ _ (fun _ => hHeld1) ?_
  clear hK K
  try simp only [Act.put, yA, yB, yC, yD, yE, yF]
  refine wpAnyE_one (i := 3) rfl (by kernel_rfl) (fun K hK => ?_)
  go_simp
  refine (H_hsg2.out _ (fresh_trans H_hf.out H_f2.out)).mono ?_; rintro r w3 ⟨rfl, y⟩; have f3 := fresh_trans H_f2.out y; have n0 := cell_fresh k0 f3; have n1 := cell_fresh k1 f3; have n2 := cell_fresh k2 f3; have n3 := cell_fresh k3 f3; have H_f3 := Lib.hid f3; clear y f3
  go_wp2_with (fail)
  have hHeld2 : ((fun (w' : World) => w'.cell? ⟨g, 0, none⟩ = some (.pointer (some ⟨b1, 0, none⟩)) ∧ w'.cell? ⟨g, 1, none⟩ = some (.int .i32 e1) ∧ w'.cell? ⟨g + 1, 0, none⟩ = some (.pointer (some ⟨b2, 0, none⟩)) ∧ w'.cell? ⟨g + 1, 1, none⟩ = some (.int .i32 e2))) _ := ⟨n0, n1, n2, n3⟩
  refine hK.out _ _ (fun _ => hHeld2) ?_
  clear hK K
  try simp only [Act.put, yA, yB, yC, yD, yE, yF]
  refine wpAnyE_takeP (i := 4) (v := ?v4_3) rfl (by kernel_rfl) (fun _ _ _ h => h) ⟨by rfl, ?y4_3⟩ (by assumption) ?r4_3
  case y4_3 => (intro w; go_simp; try with_reducible rfl)
  try simp only [Act.put, yA, yB, yC, yD, yE, yF]
  refine wpAnyE_one (i := 5) rfl (by kernel_rfl) (fun K hK => ?_)
  go_simp
  refine hK.out _ _ (fun h => Bool.noConfusion (show true = false from h)) ?_
  clear hK K
  try simp only [Act.put, yA, yB, yC, yD, yE, yF]
  refine wpAnyE_done (by kernel_rfl) ?_ _
  go_wp2_with (fail)
  go_ret
  exact ⟨rfl, fresh_trans H_hf.out H_f3.out⟩

set_option maxRecDepth 20000 in
set_option maxHeartbeats 4000000 in
theorem DCmp_none (b1 b2 : Nat) (v1 v2 : Value) (z1 z2 e1 e2 : Int) (w : World) (hG : Glob w) (hz1 : z1.natAbs < wpow 7) (hz2 : z2.natAbs < wpow 7) (hx : ZI w b1 v1 z1) (hy : ZI w b2 v2 z2) (hne : b1 ≠ b2)
    (he1 : -400 ≤ e1 ∧ e1 ≤ 400) (he2 : -400 ≤ e2 ∧ e2 ≤ 400) (hd : e1 - e2 ≤ 127 ∧ e2 - e1 ≤ 127) (he : e1 ≠ e2) (hs : sgnI z1 = 0 ∧ sgnI z2 = 0) :
    Calls Tryz.prog 22 #[sd b1 e1, sd b2 e2] w (fun r w' => r = .returned (.int .i64 (0)) ∧ Fresh w w') := by
  have hsg1 := fun W (hW : Fresh w W) => DecSign_z b1 v1 z1 e1 W (hx.fresh hW)
  have hsg2 := fun W (hW : Fresh w W) => DecSign_z b2 v2 z2 e2 W (hy.fresh hW)
  have t1 : (e1 == e2) = false := by rw [beq_eq_false_iff_ne]; exact he
  generalize sgnI z1 = a at *
  generalize sgnI z2 = b at *
  obtain ⟨rfl, rfl⟩ := hs
  obtain ⟨g, hg⟩ : ∃ g, g = w.heap.size := ⟨_, rfl⟩
  have bx := boxes2 w #[.pointer (some ⟨b1, 0, none⟩), .int .i32 e1] #[.pointer (some ⟨b2, 0, none⟩), .int .i32 e2] 49 49 g hg
  have H_bx := Lib.hid bx; clear bx
  have H_hsg1 := Lib.hid hsg1; clear hsg1
  have H_hsg2 := Lib.hid hsg2; clear hsg2
  have H_hx := Lib.hid hx; clear hx
  have H_hy := Lib.hid hy; clear hy
  have H_hG := Lib.hid hG; clear hG
  have H_hz1 := Lib.hid hz1; clear hz1
  have H_hz2 := Lib.hid hz2; clear hz2
  have H_hne := Lib.hid hne; clear hne
  have H_he1 := Lib.hid he1; clear he1
  have H_he2 := Lib.hid he2; clear he2
  have H_hd := Lib.hid hd; clear hd
  go_enter Tryz.func22, Tryz.ntmps22
  go_wp2_with (fail)
  generalize hw1 : (w.alloc _).alloc _ = w1
  rw [← hg]
  obtain ⟨r1, r2, hf⟩ := H_bx.out w1 hw1
  have k0 := row_cell r1 0
  have k1 := row_cell r1 1
  have k2 := row_cell r2 0
  have k3 := row_cell r2 1
  simp at k0 k1 k2 k3
  have H_r1 := Lib.hid r1; clear r1
  have H_r2 := Lib.hid r2; clear r2
  have H_hf := Lib.hid hf; clear hf
  have H_hw1 := Lib.hid hw1; clear hw1
  have H_hg := Lib.hid hg; clear hg
  go_wp2_with (fail)
  refine wp_region_E (S := (fun (w' : World) => w'.cell? ⟨g, 0, none⟩ = some (.pointer (some ⟨b1, 0, none⟩)) ∧ w'.cell? ⟨g, 1, none⟩ = some (.int .i32 e1) ∧ w'.cell? ⟨g + 1, 0, none⟩ = some (.pointer (some ⟨b2, 0, none⟩)) ∧ w'.cell? ⟨g + 1, 1, none⟩ = some (.int .i32 e2))) 5 (by kernel_rfl) (by exact ⟨k0, k1, k2, k3⟩) (fun hHeld => ?_)
  refine wpAnyE_takeL (i := 0) (c := 1) (v := ?v0_4) rfl (by kernel_rfl) (fun _ _ _ h => h) ⟨by rfl, ?y0_4⟩ (by assumption) ?r0_4
  case y0_4 => (intro w hSw; go_split_ands; go_simp; try with_reducible rfl)
  try simp only [Act.put, yA, yB, yD, yE, yF]
  refine wpAnyE_takeL (i := 2) (c := 3) (v := ?v2_4) rfl (by kernel_rfl) (fun _ _ _ h => h) ⟨by rfl, ?y2_4⟩ (by assumption) ?r2_4
  case y2_4 => (intro w hSw; go_split_ands; go_simp; try with_reducible rfl)
  try simp only [Act.put, yA, yB, yC, yD, yE, yF]
  refine wpAnyE_one (i := 1) rfl (by kernel_rfl) (fun K hK => ?_)
  go_simp
  refine (H_hsg1.out _ H_hf.out.drew).mono ?_; rintro r w2 ⟨rfl, y⟩; have f2 : Fresh w1 w2 := y.of_drew; have j0 := cell_fresh k0 f2; have j1 := cell_fresh k1 f2; have j2 := cell_fresh k2 f2; have j3 := cell_fresh k3 f2; have H_f2 := Lib.hid f2; clear y f2
  go_wp2_with (fail)
  have hHeld1 : ((fun (w' : World) => w'.cell? ⟨g, 0, none⟩ = some (.pointer (some ⟨b1, 0, none⟩)) ∧ w'.cell? ⟨g, 1, none⟩ = some (.int .i32 e1) ∧ w'.cell? ⟨g + 1, 0, none⟩ = some (.pointer (some ⟨b2, 0, none⟩)) ∧ w'.cell? ⟨g + 1, 1, none⟩ = some (.int .i32 e2))) _ := ⟨j0, j1, j2, j3⟩
  refine hK.out _ _ (fun _ => hHeld1) ?_
  clear hK K
  try simp only [Act.put, yA, yB, yC, yD, yE, yF]
  refine wpAnyE_one (i := 3) rfl (by kernel_rfl) (fun K hK => ?_)
  go_simp
  refine (H_hsg2.out _ (fresh_trans H_hf.out H_f2.out)).mono ?_; rintro r w3 ⟨rfl, y⟩; have f3 := fresh_trans H_f2.out y; have n0 := cell_fresh k0 f3; have n1 := cell_fresh k1 f3; have n2 := cell_fresh k2 f3; have n3 := cell_fresh k3 f3; have H_f3 := Lib.hid f3; clear y f3
  go_wp2_with (fail)
  have hHeld2 : ((fun (w' : World) => w'.cell? ⟨g, 0, none⟩ = some (.pointer (some ⟨b1, 0, none⟩)) ∧ w'.cell? ⟨g, 1, none⟩ = some (.int .i32 e1) ∧ w'.cell? ⟨g + 1, 0, none⟩ = some (.pointer (some ⟨b2, 0, none⟩)) ∧ w'.cell? ⟨g + 1, 1, none⟩ = some (.int .i32 e2))) _ := ⟨n0, n1, n2, n3⟩
  refine hK.out _ _ (fun _ => hHeld2) ?_
  clear hK K
  try simp only [Act.put, yA, yB, yC, yD, yE, yF]
  refine wpAnyE_takeP (i := 4) (v := ?v4_4) rfl (by kernel_rfl) (fun _ _ _ h => h) ⟨by rfl, ?y4_4⟩ (by assumption) ?r4_4
  case y4_4 => (intro w; go_simp; try with_reducible rfl)
  try simp only [Act.put, yA, yB, yC, yD, yE, yF]
  refine wpAnyE_one (i := 5) rfl (by kernel_rfl) (fun K hK => ?_)
  go_simp
  refine hK.out _ _ (fun h => Bool.noConfusion (show true = false from h)) ?_
  clear hK K
  try simp only [Act.put, yA, yB, yC, yD, yE, yF]
  refine wpAnyE_done (by kernel_rfl) ?_ _
  go_wp2_with (fail)
  go_ret
  exact ⟨rfl, fresh_trans H_hf.out H_f3.out⟩

set_option maxRecDepth 20000 in
set_option maxHeartbeats 4000000 in
theorem DCmp_lt (b1 b2 : Nat) (v1 v2 : Value) (z1 z2 e1 e2 : Int) (w : World) (hG : Glob w) (hz1 : z1.natAbs < wpow 7) (hz2 : z2.natAbs < wpow 7) (hx : ZI w b1 v1 z1) (hy : ZI w b2 v2 z2) (hne : b1 ≠ b2)
    (he1 : -400 ≤ e1 ∧ e1 ≤ 400) (he2 : -400 ≤ e2 ∧ e2 ≤ 400) (hd : e1 - e2 ≤ 127 ∧ e2 - e1 ≤ 127) (he : e1 < e2) (hs : sgnI z1 = sgnI z2) (hs0 : sgnI z2 ≠ 0) :
    Calls Tryz.prog 22 #[sd b1 e1, sd b2 e2] w (fun r w' => r = .returned (.int .i64 (cmpZ z1 (z2 * ((10 ^ (e2 - e1).toNat : Nat) : Int)))) ∧ Fresh w w') := by
  have hgv1 := fun W => getValue_any b1 e1 W
  have hgv2 := fun W => getValue_any b2 e2 W
  have hsg1 := fun W (hW : Fresh w W) => DecSign_z b1 v1 z1 e1 W (hx.fresh hW)
  have hsg2 := fun W (hW : Fresh w W) => DecSign_z b2 v2 z2 e2 W (hy.fresh hW)
  rw [hs] at hsg1
  clear hs
  obtain ⟨n, hn⟩ : ∃ n, n = (e2 - e1).toNat := ⟨_, rfl⟩
  rw [← hn]
  have hn127 : n ≤ 127 := by omega
  have hpw := fun W (hW : Fresh w W) => pow10_any n W (hG.fresh hW) hn127
  have hsl : (z2 * ((10 ^ n : Nat) : Int)).natAbs < wpow 30 := scaled_lt hz2 hn127
  have hmul := fun c bt vt W (hW : Fresh w W) (hc : ZI W c (.slice none 0 0) 0) (hbt : ZI W bt vt ((10 ^ n : Nat) : Int)) (hb : w.heap.size ≤ bt) => IntMul_z c b2 bt (.slice none 0 0) v2 vt 0 z2 ((10 ^ n : Nat) : Int) W (hG.fresh hW) (Nat.lt_of_lt_of_le hz2 (wpow_mono (by omega))) (ten_wpow39 (by omega)) (by have := (ZI.lt (w := w) hy); omega) hc (hy.fresh hW) hbt (Sep.nil _) (Sep.nil _)
  have hcm := fun c vc W (hW : Fresh w W) (hc : ZI W c vc (z2 * ((10 ^ n : Nat) : Int))) (hb : w.heap.size ≤ c) => IntCmp_z b1 c v1 vc z1 _ W (Nat.lt_of_lt_of_le hz1 (wpow_mono (by omega))) (Nat.lt_of_lt_of_le hsl (wpow_mono (by omega))) (by have := hx.lt; omega) (hx.fresh hW) hc
  generalize z2 * ((10 ^ n : Nat) : Int) = y at *
  generalize sgnI z2 = a at *
  have t1 : (e1 == e2) = false := by rw [beq_eq_false_iff_ne]; omega
  have t3 : ¬ e1 = e2 := by omega
  have t2 : (a == 0) = false := by rw [beq_eq_false_iff_ne]; exact hs0
  have t4 : decide (e1 < e2) = true := by simp; omega
  skip
  have hcv : IntKind.i64.wrap (e2 - e1) = (n : Int) := by rw [IntKind.wrap_i64]; omega
  have hc1 : IntKind.i64.wrap e1 = e1 := by rw [IntKind.wrap_i64]; omega
  have hc2 : IntKind.i64.wrap e2 = e2 := by rw [IntKind.wrap_i64]; omega
  have hnw : ∀ W0 W, Fresh w W0 → W0.alloc (.cells #[.bool false, .slice none 0 0] 76 (0, 0)) = W → ZI W W0.heap.size (.slice none 0 0) 0 ∧ Fresh W0 W ∧ w.heap.size ≤ W0.heap.size := by
    rintro W0 W h0 rfl
    have h1 := hG.size
    have h3 := h0.size
    exact ⟨ZI.new (heap_alloc_new W0 _) (by omega), (Keep.refl _ _).alloc _, h3⟩
  obtain ⟨g, hg⟩ : ∃ g, g = w.heap.size := ⟨_, rfl⟩
  have bx := boxes2 w #[.pointer (some ⟨b1, 0, none⟩), .int .i32 e1] #[.pointer (some ⟨b2, 0, none⟩), .int .i32 e2] 49 49 g hg
  have H_bx := Lib.hid bx; clear bx
  have H_hsg1 := Lib.hid hsg1; clear hsg1
  have H_hsg2 := Lib.hid hsg2; clear hsg2
  have H_hgv1 := Lib.hid hgv1; clear hgv1
  have H_hgv2 := Lib.hid hgv2; clear hgv2
  have H_hpw := Lib.hid hpw; clear hpw
  have H_hmul := Lib.hid hmul; clear hmul
  have H_hcm := Lib.hid hcm; clear hcm
  have H_hnw := Lib.hid hnw; clear hnw
  have H_hn := Lib.hid hn; clear hn
  have H_hn127 := Lib.hid hn127; clear hn127
  have H_hsl := Lib.hid hsl; clear hsl
  have H_hx := Lib.hid hx; clear hx
  have H_hy := Lib.hid hy; clear hy
  have H_hG := Lib.hid hG; clear hG
  have H_hz1 := Lib.hid hz1; clear hz1
  have H_hz2 := Lib.hid hz2; clear hz2
  have H_hne := Lib.hid hne; clear hne
  have H_he1 := Lib.hid he1; clear he1
  have H_he2 := Lib.hid he2; clear he2
  have H_hd := Lib.hid hd; clear hd
  go_enter Tryz.func22, Tryz.ntmps22
  go_wp2_with (fail)
  generalize hw1 : (w.alloc _).alloc _ = w1
  rw [← hg]
  obtain ⟨r1, r2, hf⟩ := H_bx.out w1 hw1
  have k0 := row_cell r1 0
  have k1 := row_cell r1 1
  have k2 := row_cell r2 0
  have k3 := row_cell r2 1
  simp at k0 k1 k2 k3
  have H_r1 := Lib.hid r1; clear r1
  have H_r2 := Lib.hid r2; clear r2
  have H_hf := Lib.hid hf; clear hf
  have H_hw1 := Lib.hid hw1; clear hw1
  have H_hg := Lib.hid hg; clear hg
  go_wp2_with (fail)
  refine wp_region_E (S := (fun (w' : World) => w'.cell? ⟨g, 0, none⟩ = some (.pointer (some ⟨b1, 0, none⟩)) ∧ w'.cell? ⟨g, 1, none⟩ = some (.int .i32 e1) ∧ w'.cell? ⟨g + 1, 0, none⟩ = some (.pointer (some ⟨b2, 0, none⟩)) ∧ w'.cell? ⟨g + 1, 1, none⟩ = some (.int .i32 e2))) 5 (by kernel_rfl) (by exact ⟨k0, k1, k2, k3⟩) (fun hHeld => ?_)
  refine wpAnyE_takeL (i := 0) (c := 1) (v := ?v0_5) rfl (by kernel_rfl) (fun _ _ _ h => h) ⟨by rfl, ?y0_5⟩ (by assumption) ?r0_5
  case y0_5 => (intro w hSw; go_split_ands; go_simp; try with_reducible rfl)
  try simp only [Act.put, yA, yB, yD, yE, yF]
  refine wpAnyE_takeL (i := 2) (c := 3) (v := ?v2_5) rfl (by kernel_rfl) (fun _ _ _ h => h) ⟨by rfl, ?y2_5⟩ (by assumption) ?r2_5
  case y2_5 => (intro w hSw; go_split_ands; go_simp; try with_reducible rfl)
  try simp only [Act.put, yA, yB, yC, yD, yE, yF]
  refine wpAnyE_one (i := 1) rfl (by kernel_rfl) (fun K hK => ?_)
  go_simp
  refine (H_hsg1.out _ H_hf.out.drew).mono ?_; rintro r w2 ⟨rfl, y⟩; have f2 : Fresh w1 w2 := y.of_drew; have j0 := cell_fresh k0 f2; have j1 := cell_fresh k1 f2; have j2 := cell_fresh k2 f2; have j3 := cell_fresh k3 f2; have H_f2 := Lib.hid f2; clear y f2
  go_wp2_with (fail)
  have hHeld1 : ((fun (w' : World) => w'.cell? ⟨g, 0, none⟩ = some (.pointer (some ⟨b1, 0, none⟩)) ∧ w'.cell? ⟨g, 1, none⟩ = some (.int .i32 e1) ∧ w'.cell? ⟨g + 1, 0, none⟩ = some (.pointer (some ⟨b2, 0, none⟩)) ∧ w'.cell? ⟨g + 1, 1, none⟩ = some (.int .i32 e2))) _ := ⟨j0, j1, j2, j3⟩
  refine hK.out _ _ (fun _ => hHeld1) ?_
  clear hK K
  try simp only [Act.put, yA, yB, yC, yD, yE, yF]
  refine wpAnyE_one (i := 3) rfl (by kernel_rfl) (fun K hK => ?_)
  go_simp
  refine (H_hsg2.out _ (fresh_trans H_hf.out H_f2.out)).mono ?_; rintro r w3 ⟨rfl, y⟩; have f3 := fresh_trans H_f2.out y; have n0 := cell_fresh k0 f3; have n1 := cell_fresh k1 f3; have n2 := cell_fresh k2 f3; have n3 := cell_fresh k3 f3; have H_f3 := Lib.hid f3; clear y f3
  go_wp2_with (fail)
  have hHeld2 : ((fun (w' : World) => w'.cell? ⟨g, 0, none⟩ = some (.pointer (some ⟨b1, 0, none⟩)) ∧ w'.cell? ⟨g, 1, none⟩ = some (.int .i32 e1) ∧ w'.cell? ⟨g + 1, 0, none⟩ = some (.pointer (some ⟨b2, 0, none⟩)) ∧ w'.cell? ⟨g + 1, 1, none⟩ = some (.int .i32 e2))) _ := ⟨n0, n1, n2, n3⟩
  refine hK.out _ _ (fun _ => hHeld2) ?_
  clear hK K
  try simp only [Act.put, yA, yB, yC, yD, yE, yF]
  refine wpAnyE_takeP (i := 4) (v := ?v4_5) rfl (by kernel_rfl) (fun _ _ _ h => h) ⟨by rfl, ?y4_5⟩ (by assumption) ?r4_5
  case y4_5 => (intro w; go_simp; try with_reducible rfl)
  try simp only [Act.put, yA, yB, yC, yD, yE, yF]
  refine wpAnyE_one (i := 5) rfl (by kernel_rfl) (fun K hK => ?_)
  go_simp
  refine hK.out _ _ (fun h => Bool.noConfusion (show true = false from h)) ?_
  clear hK K
  try simp only [Act.put, yA, yB, yC, yD, yE, yF]
  refine wpAnyE_done (by kernel_rfl) ?_ _
  have ka := fun o => cell_fresh n0 ((Keep.refl (fun _ => False) w3).alloc o)
  have kb := fun o => cell_fresh n1 ((Keep.refl (fun _ => False) w3).alloc o)
  have kc := fun o => cell_fresh n2 ((Keep.refl (fun _ => False) w3).alloc o)
  have ke := fun o => cell_fresh n3 ((Keep.refl (fun _ => False) w3).alloc o)
  have f3 := fresh_trans H_hf.out H_f3.out
  clear H_f3
  have H_f3 := Lib.hid f3; clear f3
  go_wp2_with (fail)
  clear ka kb kc ke
  generalize hw4 : w3.alloc _ = w4
  obtain ⟨zc, f4, gc⟩ := H_hnw.out w3 w4 H_f3.out hw4
  obtain ⟨c, hc⟩ : ∃ c, c = w3.heap.size := ⟨_, rfl⟩
  rw [← hc] at zc gc ⊢
  have hcw : w3.heap.size ≤ c := Nat.le_of_eq hc.symm
  have o0 := cell_fresh n0 f4
  have o1 := cell_fresh n1 f4
  have o2 := cell_fresh n2 f4
  have o3 := cell_fresh n3 f4
  have H_hw4 := Lib.hid hw4; clear hw4
  have H_hc := Lib.hid hc; clear hc
  have H_zc := Lib.hid zc; clear zc
  have H_f4 := Lib.hid f4; clear f4
  have H_gc := Lib.hid gc; clear gc
  have H_hcw := Lib.hid hcw; clear hcw
  have H_n0 := Lib.hid n0; clear n0
  have H_n1 := Lib.hid n1; clear n1
  have H_n2 := Lib.hid n2; clear n2
  have H_n3 := Lib.hid n3; clear n3
  refine wp_region_E (S := (fun (w' : World) => w'.cell? ⟨g, 0, none⟩ = some (.pointer (some ⟨b1, 0, none⟩)) ∧ w'.cell? ⟨g, 1, none⟩ = some (.int .i32 e1) ∧ w'.cell? ⟨g + 1, 0, none⟩ = some (.pointer (some ⟨b2, 0, none⟩)) ∧ w'.cell? ⟨g + 1, 1, none⟩ = some (.int .i32 e2))) 14 (by kernel_rfl) (by exact ⟨o0, o1, o2, o3⟩) (fun hHeld => ?_)
  refine wpAnyE_takeL (i := 0) (c := 1) (v := ?v0_6) rfl (by kernel_rfl) (fun _ _ _ h => h) ⟨by rfl, ?y0_6⟩ (by assumption) ?r0_6
  case y0_6 => (intro w hSw; go_split_ands; go_simp; try with_reducible rfl)
  try simp only [Act.put, yA, yB, yD, yE, yF]
  refine wpAnyE_takeL (i := 2) (c := 3) (v := ?v2_6) rfl (by kernel_rfl) (fun _ _ _ h => h) ⟨by rfl, ?y2_6⟩ (by assumption) ?r2_6
  case y2_6 => (intro w hSw; go_split_ands; go_simp; try with_reducible rfl)
  try simp only [Act.put, yA, yB, yC, yD, yE, yF]
  refine wpAnyE_takeP (i := 4) (v := ?v4_6) rfl (by kernel_rfl) (fun _ _ _ h => h) ⟨by rfl, ?y4_6⟩ (by assumption) ?r4_6
  case y4_6 => (intro w; go_simp; try with_reducible rfl)
  try simp only [Act.put, yA, yB, yC, yD, yE, yF]
  refine wpAnyE_takeL (i := 5) (c := 6) (v := ?v5_6) rfl (by kernel_rfl) (fun _ _ _ h => h) ⟨by rfl, ?y5_6⟩ (by assumption) ?r5_6
  case y5_6 => (intro w hSw; go_split_ands; go_simp; try with_reducible rfl)
  try simp only [Act.put, yA, yB, yC, yD, yE, yF]
  refine wpAnyE_takeP (i := 6) (v := ?v6_6) rfl (by kernel_rfl) (fun _ _ _ h => h) ⟨by rfl, ?y6_6⟩ (by assumption) ?r6_6
  case y6_6 => (intro w; go_simp; try with_reducible rfl)
  try simp only [Act.put, yA, yB, yC, yD, yE, yF]
  refine wpAnyE_takeP (i := 7) (v := ?v7_6) rfl (by kernel_rfl) (fun _ _ _ h => h) ⟨by rfl, ?y7_6⟩ (by assumption) ?r7_6
  case y7_6 => (intro w; go_simp; try with_reducible rfl)
  try simp only [Act.put, yA, yB, yC, yD, yE, yF]
  refine wpAnyE_takeL (i := 8) (c := 9) (v := ?v8_6) rfl (by kernel_rfl) (fun _ _ _ h => h) ⟨by rfl, ?y8_6⟩ (by assumption) ?r8_6
  case y8_6 => (intro w hSw; go_split_ands; go_simp; try with_reducible rfl)
  try simp only [Act.put, yA, yB, yC, yD, yE, yF]
  refine wpAnyE_takeP (i := 9) (v := ?v9_6) rfl (by kernel_rfl) (fun _ _ _ h => h) ⟨by rfl, ?y9_6⟩ (by assumption) ?r9_6
  case y9_6 => (intro w; go_simp; try with_reducible rfl)
  try simp only [Act.put, yA, yB, yC, yD, yE, yF]
  refine wpAnyE_takeP (i := 10) (v := ?v10_6) rfl (by kernel_rfl) (fun _ _ _ h => h) ⟨by rfl, ?y10_6⟩ (by assumption) ?r10_6
  case y10_6 => (intro w; go_simp; try with_reducible rfl)
  try simp only [Act.put, yA, yB, yC, yD, yE, yF]
  refine wpAnyE_one (i := 1) rfl (by kernel_rfl) (fun K hK => ?_)
  go_simp
  refine (H_hgv1.out _).mono ?_; rintro r w5 ⟨rfl, y⟩; have f5 := fresh_trans H_f4.out y.of_drew; have p0 := cell_fresh H_n0.out f5; have p1 := cell_fresh H_n1.out f5; have p2 := cell_fresh H_n2.out f5; have p3 := cell_fresh H_n3.out f5; have H_y5 := Lib.hid y.of_drew; have H_f5 := Lib.hid f5; clear y f5
  go_wp2_with (fail)
  have hHeld1 : ((fun (w' : World) => w'.cell? ⟨g, 0, none⟩ = some (.pointer (some ⟨b1, 0, none⟩)) ∧ w'.cell? ⟨g, 1, none⟩ = some (.int .i32 e1) ∧ w'.cell? ⟨g + 1, 0, none⟩ = some (.pointer (some ⟨b2, 0, none⟩)) ∧ w'.cell? ⟨g + 1, 1, none⟩ = some (.int .i32 e2))) _ := ⟨p0, p1, p2, p3⟩
  refine hK.out _ _ (fun _ => hHeld1) ?_
  clear hK K
  try simp only [Act.put, yA, yB, yC, yD, yE, yF]
  refine wpAnyE_one (i := 3) rfl (by kernel_rfl) (fun K hK => ?_)
  go_simp
  refine (H_hgv2.out _).mono ?_; rintro r w6 ⟨rfl, y⟩; have f6 := fresh_trans H_f5.out y; have y6 := fresh_trans H_y5.out y; have q0 := cell_fresh H_n0.out f6; have q1 := cell_fresh H_n1.out f6; have q2 := cell_fresh H_n2.out f6; have q3 := cell_fresh H_n3.out f6; have H_f6 := Lib.hid f6; have H_y6 := Lib.hid y6; clear y f6 y6
  go_wp2_with (fail)
  have hHeld2 : ((fun (w' : World) => w'.cell? ⟨g, 0, none⟩ = some (.pointer (some ⟨b1, 0, none⟩)) ∧ w'.cell? ⟨g, 1, none⟩ = some (.int .i32 e1) ∧ w'.cell? ⟨g + 1, 0, none⟩ = some (.pointer (some ⟨b2, 0, none⟩)) ∧ w'.cell? ⟨g + 1, 1, none⟩ = some (.int .i32 e2))) _ := ⟨q0, q1, q2, q3⟩
  refine hK.out _ _ (fun _ => hHeld2) ?_
  clear hK K
  try simp only [Act.put, yA, yB, yC, yD, yE, yF]
  refine wpAnyE_one (i := 11) rfl (by kernel_rfl) (fun K hK => ?_)
  go_simp
  refine (H_hpw.out _ (fresh_trans H_f3.out H_f6.out)).mono ?_; rintro r w7 ⟨bt, vt, rfl, zt, y, gt, -⟩; have f7 := fresh_trans H_f6.out y; have y7 := fresh_trans H_y6.out y; have gt2 := Nat.le_trans (fresh_trans H_f3.out H_f6.out).size gt; have r0 := cell_fresh H_n0.out f7; have r1 := cell_fresh H_n1.out f7; have r2 := cell_fresh H_n2.out f7; have r3 := cell_fresh H_n3.out f7; have H_f7 := Lib.hid f7; have H_y7 := Lib.hid y7; have H_zt := Lib.hid zt; have H_gt := Lib.hid gt2; clear y f7 y7 zt gt gt2
  go_wp2_with (fail)
  have hHeld3 : ((fun (w' : World) => w'.cell? ⟨g, 0, none⟩ = some (.pointer (some ⟨b1, 0, none⟩)) ∧ w'.cell? ⟨g, 1, none⟩ = some (.int .i32 e1) ∧ w'.cell? ⟨g + 1, 0, none⟩ = some (.pointer (some ⟨b2, 0, none⟩)) ∧ w'.cell? ⟨g + 1, 1, none⟩ = some (.int .i32 e2))) _ := ⟨r0, r1, r2, r3⟩
  refine hK.out _ _ (fun _ => hHeld3) ?_
  clear hK K
  try simp only [Act.put, yA, yB, yC, yD, yE, yF]
  refine wpAnyE_one (i := 12) rfl (by kernel_rfl) (fun K hK => ?_)
  go_simp
  refine (H_hmul.out c _ _ _ (fresh_trans H_f3.out H_f7.out) (H_zc.out.fresh H_y7.out) H_zt.out H_gt.out).mono ?_; rintro r w8 ⟨rfl, hset⟩; obtain ⟨v8, z8, f8, -⟩ := hset.fresh H_f7.out H_hcw.out; have s0 := cell_fresh H_n0.out f8; have s1 := cell_fresh H_n1.out f8; have s2 := cell_fresh H_n2.out f8; have s3 := cell_fresh H_n3.out f8; have H_f8 := Lib.hid f8; have H_z8 := Lib.hid z8; clear hset f8 z8
  go_wp2_with (fail)
  have hHeld4 : ((fun (w' : World) => w'.cell? ⟨g, 0, none⟩ = some (.pointer (some ⟨b1, 0, none⟩)) ∧ w'.cell? ⟨g, 1, none⟩ = some (.int .i32 e1) ∧ w'.cell? ⟨g + 1, 0, none⟩ = some (.pointer (some ⟨b2, 0, none⟩)) ∧ w'.cell? ⟨g + 1, 1, none⟩ = some (.int .i32 e2))) _ := ⟨s0, s1, s2, s3⟩
  refine hK.out _ _ (fun _ => hHeld4) ?_
  clear hK K
  try simp only [Act.put, yA, yB, yC, yD, yE, yF]
  refine wpAnyE_one (i := 13) rfl (by kernel_rfl) (fun K hK => ?_)
  go_simp
  refine (H_hcm.out c _ _ (fresh_trans H_f3.out H_f8.out) H_z8.out H_gc.out).mono ?_; rintro r w9 ⟨rfl, hq⟩; have f9 : Fresh w3 w9 := (by obtain ⟨q, rfl⟩ := hq; exact H_f8.out.drewN q); have t0 := cell_fresh H_n0.out f9; have t1 := cell_fresh H_n1.out f9; have t2 := cell_fresh H_n2.out f9; have t3 := cell_fresh H_n3.out f9; have H_f9 := Lib.hid f9; clear hq f9
  go_wp2_with (fail)
  have hHeld5 : ((fun (w' : World) => w'.cell? ⟨g, 0, none⟩ = some (.pointer (some ⟨b1, 0, none⟩)) ∧ w'.cell? ⟨g, 1, none⟩ = some (.int .i32 e1) ∧ w'.cell? ⟨g + 1, 0, none⟩ = some (.pointer (some ⟨b2, 0, none⟩)) ∧ w'.cell? ⟨g + 1, 1, none⟩ = some (.int .i32 e2))) _ := ⟨t0, t1, t2, t3⟩
  refine hK.out _ _ (fun _ => hHeld5) ?_
  clear hK K
  try simp only [Act.put, yA, yB, yC, yD, yE, yF]
  refine wpAnyE_one (i := 14) rfl (by kernel_rfl) (fun K hK => ?_)
  go_simp
  refine hK.out _ _ (fun h => Bool.noConfusion (show true = false from h)) ?_
  clear hK K
  try simp only [Act.put, yA, yB, yC, yD, yE, yF]
  refine wpAnyE_done (by kernel_rfl) ?_ _
  go_wp2_with (fail)
  go_ret
  exact ⟨rfl, fresh_trans H_f3.out H_f9.out⟩

set_option maxRecDepth 20000 in
set_option maxHeartbeats 4000000 in
theorem DCmp_gt (b1 b2 : Nat) (v1 v2 : Value) (z1 z2 e1 e2 : Int) (w : World) (hG : Glob w) (hz1 : z1.natAbs < wpow 7) (hz2 : z2.natAbs < wpow 7) (hx : ZI w b1 v1 z1) (hy : ZI w b2 v2 z2) (hne : b1 ≠ b2)
    (he1 : -400 ≤ e1 ∧ e1 ≤ 400) (he2 : -400 ≤ e2 ∧ e2 ≤ 400) (hd : e1 - e2 ≤ 127 ∧ e2 - e1 ≤ 127) (he : e2 < e1) (hs : sgnI z1 = sgnI z2) (hs0 : sgnI z2 ≠ 0) :
    Calls Tryz.prog 22 #[sd b1 e1, sd b2 e2] w (fun r w' => r = .returned (.int .i64 (cmpZ (z1 * ((10 ^ (e1 - e2).toNat : Nat) : Int)) z2)) ∧ Fresh w w') := by
  have hgv1 := fun W => getValue_any b1 e1 W
  have hgv2 := fun W => getValue_any b2 e2 W
  have hsg1 := fun W (hW : Fresh w W) => DecSign_z b1 v1 z1 e1 W (hx.fresh hW)
  have hsg2 := fun W (hW : Fresh w W) => DecSign_z b2 v2 z2 e2 W (hy.fresh hW)
  rw [hs] at hsg1
  clear hs
  obtain ⟨n, hn⟩ : ∃ n, n = (e1 - e2).toNat := ⟨_, rfl⟩
  rw [← hn]
  have hn127 : n ≤ 127 := by omega
  have hpw := fun W (hW : Fresh w W) => pow10_any n W (hG.fresh hW) hn127
  have hsl : (z1 * ((10 ^ n : Nat) : Int)).natAbs < wpow 30 := scaled_lt hz1 hn127
  have hmul := fun c bt vt W (hW : Fresh w W) (hc : ZI W c (.slice none 0 0) 0) (hbt : ZI W bt vt ((10 ^ n : Nat) : Int)) (hb : w.heap.size ≤ bt) => IntMul_z c b1 bt (.slice none 0 0) v1 vt 0 z1 ((10 ^ n : Nat) : Int) W (hG.fresh hW) (Nat.lt_of_lt_of_le hz1 (wpow_mono (by omega))) (ten_wpow39 (by omega)) (by have := (ZI.lt (w := w) hx); omega) hc (hx.fresh hW) hbt (Sep.nil _) (Sep.nil _)
  have hcm := fun c vc W (hW : Fresh w W) (hc : ZI W c vc (z1 * ((10 ^ n : Nat) : Int))) (hb : w.heap.size ≤ c) => IntCmp_z c b2 vc v2 _ z2 W (Nat.lt_of_lt_of_le hsl (wpow_mono (by omega))) (Nat.lt_of_lt_of_le hz2 (wpow_mono (by omega))) (by have := hy.lt; omega) hc (hy.fresh hW)
  generalize z1 * ((10 ^ n : Nat) : Int) = y at *
  generalize sgnI z2 = a at *
  have t1 : (e1 == e2) = false := by rw [beq_eq_false_iff_ne]; omega
  have t3 : ¬ e1 = e2 := by omega
  have t2 : (a == 0) = false := by rw [beq_eq_false_iff_ne]; exact hs0
  have t4 : decide (e1 < e2) = false := by simp; omega
  have t5 : ¬ e1 < e2 := by omega
  have hcv : IntKind.i64.wrap (e1 - e2) = (n : Int) := by rw [IntKind.wrap_i64]; omega
  have hc1 : IntKind.i64.wrap e1 = e1 := by rw [IntKind.wrap_i64]; omega
  have hc2 : IntKind.i64.wrap e2 = e2 := by rw [IntKind.wrap_i64]; omega
  have hnw : ∀ W0 W, Fresh w W0 → W0.alloc (.cells #[.bool false, .slice none 0 0] 76 (0, 0)) = W → ZI W W0.heap.size (.slice none 0 0) 0 ∧ Fresh W0 W ∧ w.heap.size ≤ W0.heap.size := by
    rintro W0 W h0 rfl
    have h1 := hG.size
    have h3 := h0.size
    exact ⟨ZI.new (heap_alloc_new W0 _) (by omega), (Keep.refl _ _).alloc _, h3⟩
  obtain ⟨g, hg⟩ : ∃ g, g = w.heap.size := ⟨_, rfl⟩
  have bx := boxes2 w #[.pointer (some ⟨b1, 0, none⟩), .int .i32 e1] #[.pointer (some ⟨b2, 0, none⟩), .int .i32 e2] 49 49 g hg
  have H_bx := Lib.hid bx; clear bx
  have H_hsg1 := Lib.hid hsg1; clear hsg1
  have H_hsg2 := Lib.hid hsg2; clear hsg2
  have H_hgv1 := Lib.hid hgv1; clear hgv1
  have H_hgv2 := Lib.hid hgv2; clear hgv2
  have H_hpw := Lib.hid hpw; clear hpw
  have H_hmul := Lib.hid hmul; clear hmul
  have H_hcm := Lib.hid hcm; clear hcm
  have H_hnw := Lib.hid hnw; clear hnw
  have H_hn := Lib.hid hn; clear hn
  have H_hn127 := Lib.hid hn127; clear hn127
  have H_hsl := Lib.hid hsl; clear hsl
  have H_hx := Lib.hid hx; clear hx
  have H_hy := Lib.hid hy; clear hy
  have H_hG := Lib.hid hG; clear hG
  have H_hz1 := Lib.hid hz1; clear hz1
  have H_hz2 := Lib.hid hz2; clear hz2
  have H_hne := Lib.hid hne; clear hne
  have H_he1 := Lib.hid he1; clear he1
  have H_he2 := Lib.hid he2; clear he2
  have H_hd := Lib.hid hd; clear hd
  go_enter Tryz.func22, Tryz.ntmps22
  go_wp2_with (fail)
  generalize hw1 : (w.alloc _).alloc _ = w1
  rw [← hg]
  obtain ⟨r1, r2, hf⟩ := H_bx.out w1 hw1
  have k0 := row_cell r1 0
  have k1 := row_cell r1 1
  have k2 := row_cell r2 0
  have k3 := row_cell r2 1
  simp at k0 k1 k2 k3
  have H_r1 := Lib.hid r1; clear r1
  have H_r2 := Lib.hid r2; clear r2
  have H_hf := Lib.hid hf; clear hf
  have H_hw1 := Lib.hid hw1; clear hw1
  have H_hg := Lib.hid hg; clear hg
  go_wp2_with (fail)
  refine wp_region_E (S := (fun (w' : World) => w'.cell? ⟨g, 0, none⟩ = some (.pointer (some ⟨b1, 0, none⟩)) ∧ w'.cell? ⟨g, 1, none⟩ = some (.int .i32 e1) ∧ w'.cell? ⟨g + 1, 0, none⟩ = some (.pointer (some ⟨b2, 0, none⟩)) ∧ w'.cell? ⟨g + 1, 1, none⟩ = some (.int .i32 e2))) 5 (by kernel_rfl) (by exact ⟨k0, k1, k2, k3⟩) (fun hHeld => ?_)
  refine wpAnyE_takeL (i := 0) (c := 1) (v := ?v0_7) rfl (by kernel_rfl) (fun _ _ _ h => h) ⟨by rfl, ?y0_7⟩ (by assumption) ?r0_7
  case y0_7 => (intro w hSw; go_split_ands; go_simp; try with_reducible rfl)
  try simp only [Act.put, yA, yB, yD, yE, yF]
  refine wpAnyE_takeL (i := 2) (c := 3) (v := ?v2_7) rfl (by kernel_rfl) (fun _ _ _ h => h) ⟨by rfl, ?y2_7⟩ (by assumption) ?r2_7
  case y2_7 => (intro w hSw; go_split_ands; go_simp; try with_reducible rfl)
  try simp only [Act.put, yA, yB, yC, yD, yE, yF]
  refine wpAnyE_one (i := 1) rfl (by kernel_rfl) (fun K hK => ?_)
  go_simp
  refine (H_hsg1.out _ H_hf.out.drew).mono ?_; rintro r w2 ⟨rfl, y⟩; have f2 : Fresh w1 w2 := y.of_drew; have j0 := cell_fresh k0 f2; have j1 := cell_fresh k1 f2; have j2 := cell_fresh k2 f2; have j3 := cell_fresh k3 f2; have H_f2 := Lib.hid f2; clear y f2
  go_wp2_with (fail)
  have hHeld1 : ((fun (w' : World) => w'.cell? ⟨g, 0, none⟩ = some (.pointer (some ⟨b1, 0, none⟩)) ∧ w'.cell? ⟨g, 1, none⟩ = some (.int .i32 e1) ∧ w'.cell? ⟨g + 1, 0, none⟩ = some (.pointer (some ⟨b2, 0, none⟩)) ∧ w'.cell? ⟨g + 1, 1, none⟩ = some (.int .i32 e2))) _ := ⟨j0, j1, j2, j3⟩
  refine hK.out _ _ (fun _ => hHeld1) ?_
  clear hK K
  try simp only [Act.put, yA, yB, yC, yD, yE, yF]
  refine wpAnyE_one (i := 3) rfl (by kernel_rfl) (fun K hK => ?_)
  go_simp
  refine (H_hsg2.out _ (fresh_trans H_hf.out H_f2.out)).mono ?_; rintro r w3 ⟨rfl, y⟩; have f3 := fresh_trans H_f2.out y; have n0 := cell_fresh k0 f3; have n1 := cell_fresh k1 f3; have n2 := cell_fresh k2 f3; have n3 := cell_fresh k3 f3; have H_f3 := Lib.hid f3; clear y f3
  go_wp2_with (fail)
  have hHeld2 : ((fun (w' : World) => w'.cell? ⟨g, 0, none⟩ = some (.pointer (some ⟨b1, 0, none⟩)) ∧ w'.cell? ⟨g, 1, none⟩ = some (.int .i32 e1) ∧ w'.cell? ⟨g + 1, 0, none⟩ = some (.pointer (some ⟨b2, 0, none⟩)) ∧ w'.cell? ⟨g + 1, 1, none⟩ = some (.int .i32 e2))) _ := ⟨n0, n1, n2, n3⟩
  refine hK.out _ _ (fun _ => hHeld2) ?_
  clear hK K
  try simp only [Act.put, yA, yB, yC, yD, yE, yF]
  refine wpAnyE_takeP (i := 4) (v := ?v4_7) rfl (by kernel_rfl) (fun _ _ _ h => h) ⟨by rfl, ?y4_7⟩ (by assumption) ?r4_7
  case y4_7 => (intro w; go_simp; try with_reducible rfl)
  try simp only [Act.put, yA, yB, yC, yD, yE, yF]
  refine wpAnyE_one (i := 5) rfl (by kernel_rfl) (fun K hK => ?_)
  go_simp
  refine hK.out _ _ (fun h => Bool.noConfusion (show true = false from h)) ?_
  clear hK K
  try simp only [Act.put, yA, yB, yC, yD, yE, yF]
  refine wpAnyE_done (by kernel_rfl) ?_ _
  have ka := fun o => cell_fresh n0 ((Keep.refl (fun _ => False) w3).alloc o)
  have kb := fun o => cell_fresh n1 ((Keep.refl (fun _ => False) w3).alloc o)
  have kc := fun o => cell_fresh n2 ((Keep.refl (fun _ => False) w3).alloc o)
  have ke := fun o => cell_fresh n3 ((Keep.refl (fun _ => False) w3).alloc o)
  have f3 := fresh_trans H_hf.out H_f3.out
  clear H_f3
  have H_f3 := Lib.hid f3; clear f3
  go_wp2_with (fail)
  clear ka kb kc ke
  generalize hw4 : w3.alloc _ = w4
  obtain ⟨zc, f4, gc⟩ := H_hnw.out w3 w4 H_f3.out hw4
  obtain ⟨c, hc⟩ : ∃ c, c = w3.heap.size := ⟨_, rfl⟩
  rw [← hc] at zc gc ⊢
  have hcw : w3.heap.size ≤ c := Nat.le_of_eq hc.symm
  have o0 := cell_fresh n0 f4
  have o1 := cell_fresh n1 f4
  have o2 := cell_fresh n2 f4
  have o3 := cell_fresh n3 f4
  have H_hw4 := Lib.hid hw4; clear hw4
  have H_hc := Lib.hid hc; clear hc
  have H_zc := Lib.hid zc; clear zc
  have H_f4 := Lib.hid f4; clear f4
  have H_gc := Lib.hid gc; clear gc
  have H_hcw := Lib.hid hcw; clear hcw
  have H_n0 := Lib.hid n0; clear n0
  have H_n1 := Lib.hid n1; clear n1
  have H_n2 := Lib.hid n2; clear n2
  have H_n3 := Lib.hid n3; clear n3
  refine wp_region_E (S := (fun (w' : World) => w'.cell? ⟨g, 0, none⟩ = some (.pointer (some ⟨b1, 0, none⟩)) ∧ w'.cell? ⟨g, 1, none⟩ = some (.int .i32 e1) ∧ w'.cell? ⟨g + 1, 0, none⟩ = some (.pointer (some ⟨b2, 0, none⟩)) ∧ w'.cell? ⟨g + 1, 1, none⟩ = some (.int .i32 e2))) 14 (by kernel_rfl) (by exact ⟨o0, o1, o2, o3⟩) (fun hHeld => ?_)
  refine wpAnyE_takeL (i := 0) (c := 1) (v := ?v0_8) rfl (by kernel_rfl) (fun _ _ _ h => h) ⟨by rfl, ?y0_8⟩ (by assumption) ?r0_8
  case y0_8 => (intro w hSw; go_split_ands; go_simp; try with_reducible rfl)
  try simp only [Act.put, yA, yB, yD, yE, yF]
  refine wpAnyE_takeP (i := 2) (v := ?v2_8) rfl (by kernel_rfl) (fun _ _ _ h => h) ⟨by rfl, ?y2_8⟩ (by assumption) ?r2_8
  case y2_8 => (intro w; go_simp; try with_reducible rfl)
  try simp only [Act.put, yA, yB, yC, yD, yE, yF]
  refine wpAnyE_takeL (i := 3) (c := 4) (v := ?v3_8) rfl (by kernel_rfl) (fun _ _ _ h => h) ⟨by rfl, ?y3_8⟩ (by assumption) ?r3_8
  case y3_8 => (intro w hSw; go_split_ands; go_simp; try with_reducible rfl)
  try simp only [Act.put, yA, yB, yC, yD, yE, yF]
  refine wpAnyE_takeP (i := 4) (v := ?v4_8) rfl (by kernel_rfl) (fun _ _ _ h => h) ⟨by rfl, ?y4_8⟩ (by assumption) ?r4_8
  case y4_8 => (intro w; go_simp; try with_reducible rfl)
  try simp only [Act.put, yA, yB, yC, yD, yE, yF]
  refine wpAnyE_takeP (i := 5) (v := ?v5_8) rfl (by kernel_rfl) (fun _ _ _ h => h) ⟨by rfl, ?y5_8⟩ (by assumption) ?r5_8
  case y5_8 => (intro w; go_simp; try with_reducible rfl)
  try simp only [Act.put, yA, yB, yC, yD, yE, yF]
  refine wpAnyE_takeL (i := 6) (c := 7) (v := ?v6_8) rfl (by kernel_rfl) (fun _ _ _ h => h) ⟨by rfl, ?y6_8⟩ (by assumption) ?r6_8
  case y6_8 => (intro w hSw; go_split_ands; go_simp; try with_reducible rfl)
  try simp only [Act.put, yA, yB, yC, yD, yE, yF]
  refine wpAnyE_takeP (i := 7) (v := ?v7_8) rfl (by kernel_rfl) (fun _ _ _ h => h) ⟨by rfl, ?y7_8⟩ (by assumption) ?r7_8
  case y7_8 => (intro w; go_simp; try with_reducible rfl)
  try simp only [Act.put, yA, yB, yC, yD, yE, yF]
  refine wpAnyE_takeP (i := 8) (v := ?v8_8) rfl (by kernel_rfl) (fun _ _ _ h => h) ⟨by rfl, ?y8_8⟩ (by assumption) ?r8_8
  case y8_8 => (intro w; go_simp; try with_reducible rfl)
  try simp only [Act.put, yA, yB, yC, yD, yE, yF]
  refine wpAnyE_takeL (i := 11) (c := 12) (v := ?v11_8) rfl (by kernel_rfl) (fun _ _ _ h => h) ⟨by rfl, ?y11_8⟩ (by assumption) ?r11_8
  case y11_8 => (intro w hSw; go_split_ands; go_simp; try with_reducible rfl)
  try simp only [Act.put, yA, yB, yC, yD, yE, yF]
  refine wpAnyE_one (i := 1) rfl (by kernel_rfl) (fun K hK => ?_)
  go_simp
  refine (H_hgv1.out _).mono ?_; rintro r w5 ⟨rfl, y⟩; have f5 := fresh_trans H_f4.out y.of_drew; have p0 := cell_fresh H_n0.out f5; have p1 := cell_fresh H_n1.out f5; have p2 := cell_fresh H_n2.out f5; have p3 := cell_fresh H_n3.out f5; have H_y5 := Lib.hid y.of_drew; have H_f5 := Lib.hid f5; clear y f5
  go_wp2_with (fail)
  have hHeld1 : ((fun (w' : World) => w'.cell? ⟨g, 0, none⟩ = some (.pointer (some ⟨b1, 0, none⟩)) ∧ w'.cell? ⟨g, 1, none⟩ = some (.int .i32 e1) ∧ w'.cell? ⟨g + 1, 0, none⟩ = some (.pointer (some ⟨b2, 0, none⟩)) ∧ w'.cell? ⟨g + 1, 1, none⟩ = some (.int .i32 e2))) _ := ⟨p0, p1, p2, p3⟩
  refine hK.out _ _ (fun _ => hHeld1) ?_
  clear hK K
  try simp only [Act.put, yA, yB, yC, yD, yE, yF]
  refine wpAnyE_one (i := 9) rfl (by kernel_rfl) (fun K hK => ?_)
  go_simp
  refine (H_hpw.out _ (fresh_trans H_f3.out H_f5.out)).mono ?_; rintro r w7 ⟨bt, vt, rfl, zt, y, gt, -⟩; have f7 := fresh_trans H_f5.out y; have y7 := fresh_trans H_y5.out y; have gt2 := Nat.le_trans (fresh_trans H_f3.out H_f5.out).size gt; have r0 := cell_fresh H_n0.out f7; have r1 := cell_fresh H_n1.out f7; have r2 := cell_fresh H_n2.out f7; have r3 := cell_fresh H_n3.out f7; have H_f7 := Lib.hid f7; have H_y7 := Lib.hid y7; have H_zt := Lib.hid zt; have H_gt := Lib.hid gt2; clear y f7 y7 zt gt gt2
  go_wp2_with (fail)
  have hHeld2 : ((fun (w' : World) => w'.cell? ⟨g, 0, none⟩ = some (.pointer (some ⟨b1, 0, none⟩)) ∧ w'.cell? ⟨g, 1, none⟩ = some (.int .i32 e1) ∧ w'.cell? ⟨g + 1, 0, none⟩ = some (.pointer (some ⟨b2, 0, none⟩)) ∧ w'.cell? ⟨g + 1, 1, none⟩ = some (.int .i32 e2))) _ := ⟨r0, r1, r2, r3⟩
  refine hK.out _ _ (fun _ => hHeld2) ?_
  clear hK K
  try simp only [Act.put, yA, yB, yC, yD, yE, yF]
  refine wpAnyE_one (i := 10) rfl (by kernel_rfl) (fun K hK => ?_)
  go_simp
  refine (H_hmul.out c _ _ _ (fresh_trans H_f3.out H_f7.out) (H_zc.out.fresh H_y7.out) H_zt.out H_gt.out).mono ?_; rintro r w8 ⟨rfl, hset⟩; obtain ⟨v8, z8, f8, -⟩ := hset.fresh H_f7.out H_hcw.out; have s0 := cell_fresh H_n0.out f8; have s1 := cell_fresh H_n1.out f8; have s2 := cell_fresh H_n2.out f8; have s3 := cell_fresh H_n3.out f8; have H_f8 := Lib.hid f8; have H_z8 := Lib.hid z8; clear hset f8 z8
  go_wp2_with (fail)
  have hHeld3 : ((fun (w' : World) => w'.cell? ⟨g, 0, none⟩ = some (.pointer (some ⟨b1, 0, none⟩)) ∧ w'.cell? ⟨g, 1, none⟩ = some (.int .i32 e1) ∧ w'.cell? ⟨g + 1, 0, none⟩ = some (.pointer (some ⟨b2, 0, none⟩)) ∧ w'.cell? ⟨g + 1, 1, none⟩ = some (.int .i32 e2))) _ := ⟨s0, s1, s2, s3⟩
  refine hK.out _ _ (fun _ => hHeld3) ?_
  clear hK K
  try simp only [Act.put, yA, yB, yC, yD, yE, yF]
  refine wpAnyE_one (i := 12) rfl (by kernel_rfl) (fun K hK => ?_)
  go_simp
  refine (H_hgv2.out _).mono ?_; rintro r w6 ⟨rfl, y⟩; have f6 := fresh_trans H_f8.out y; have z6 := H_z8.out.fresh y; have q0 := cell_fresh H_n0.out f6; have q1 := cell_fresh H_n1.out f6; have q2 := cell_fresh H_n2.out f6; have q3 := cell_fresh H_n3.out f6; have H_f6 := Lib.hid f6; have H_z6 := Lib.hid z6; clear y f6 z6
  go_wp2_with (fail)
  have hHeld4 : ((fun (w' : World) => w'.cell? ⟨g, 0, none⟩ = some (.pointer (some ⟨b1, 0, none⟩)) ∧ w'.cell? ⟨g, 1, none⟩ = some (.int .i32 e1) ∧ w'.cell? ⟨g + 1, 0, none⟩ = some (.pointer (some ⟨b2, 0, none⟩)) ∧ w'.cell? ⟨g + 1, 1, none⟩ = some (.int .i32 e2))) _ := ⟨q0, q1, q2, q3⟩
  refine hK.out _ _ (fun _ => hHeld4) ?_
  clear hK K
  try simp only [Act.put, yA, yB, yC, yD, yE, yF]
  refine wpAnyE_one (i := 13) rfl (by kernel_rfl) (fun K hK => ?_)
  go_simp
  refine (H_hcm.out c _ _ (fresh_trans H_f3.out H_f6.out) H_z6.out H_gc.out).mono ?_; rintro r w9 ⟨rfl, hq⟩; have f9 : Fresh w3 w9 := (by obtain ⟨q, rfl⟩ := hq; exact H_f6.out.drewN q); have t0 := cell_fresh H_n0.out f9; have t1 := cell_fresh H_n1.out f9; have t2 := cell_fresh H_n2.out f9; have t3 := cell_fresh H_n3.out f9; have H_f9 := Lib.hid f9; clear hq f9
  go_wp2_with (fail)
  have hHeld5 : ((fun (w' : World) => w'.cell? ⟨g, 0, none⟩ = some (.pointer (some ⟨b1, 0, none⟩)) ∧ w'.cell? ⟨g, 1, none⟩ = some (.int .i32 e1) ∧ w'.cell? ⟨g + 1, 0, none⟩ = some (.pointer (some ⟨b2, 0, none⟩)) ∧ w'.cell? ⟨g + 1, 1, none⟩ = some (.int .i32 e2))) _ := ⟨t0, t1, t2, t3⟩
  refine hK.out _ _ (fun _ => hHeld5) ?_
  clear hK K
  try simp only [Act.put, yA, yB, yC, yD, yE, yF]
  refine wpAnyE_one (i := 14) rfl (by kernel_rfl) (fun K hK => ?_)
  go_simp
  refine hK.out _ _ (fun h => Bool.noConfusion (show true = false from h)) ?_
  clear hK K
  try simp only [Act.put, yA, yB, yC, yD, yE, yF]
  refine wpAnyE_done (by kernel_rfl) ?_ _
  go_wp2_with (fail)
  go_ret
  exact ⟨rfl, fresh_trans H_f3.out H_f9.out⟩

theorem sgnI_ways (z : Int) : (z = 0 ∧ sgnI z = 0) ∨ (z < 0 ∧ sgnI z = -1) ∨ (0 < z ∧ sgnI z = 1) := by
  unfold sgnI
  split
  · exact .inl ⟨by assumption, rfl⟩
  · split
    · exact .inr (.inl ⟨by assumption, rfl⟩)
    · exact .inr (.inr ⟨by omega, rfl⟩)

theorem DCmp_any (b1 b2 : Nat) (v1 v2 : Value) (z1 z2 e1 e2 m : Int) (w : World) (hG : Glob w) (hz1 : z1.natAbs < wpow 7) (hz2 : z2.natAbs < wpow 7) (hx : ZI w b1 v1 z1) (hy : ZI w b2 v2 z2) (hne : b1 ≠ b2)
    (he1 : -60 ≤ e1 ∧ e1 ≤ 60) (he2 : -60 ≤ e2 ∧ e2 ≤ 60) (hm : m = min e1 e2) :
    Calls Tryz.prog 22 #[sd b1 e1, sd b2 e2] w (fun r w' => r = .returned (.int .i64 (cmpZ (z1 * ((10 ^ (e1 - m).toNat : Nat) : Int)) (z2 * ((10 ^ (e2 - m).toNat : Nat) : Int)))) ∧ Fresh w w') := by
  have e0 : ∀ (z e : Int), z * ((10 ^ (e - e).toNat : Nat) : Int) = z := fun z e => by
    rw [Int.sub_self]; exact Int.mul_one z
  have r1 : -400 ≤ e1 ∧ e1 ≤ 400 := by omega
  have r2 : -400 ≤ e2 ∧ e2 ≤ 400 := by omega
  have rd : e1 - e2 ≤ 127 ∧ e2 - e1 ≤ 127 := by omega
  have hlo : e1 < e2 → m = e1 := by omega
  have hhi : e2 < e1 → m = e2 := by omega
  have heq : e1 = e2 → m = e1 := by omega
  by_cases h : e1 = e2
  · have h' := h
    have hm' := heq h
    subst h
    subst hm'
    rw [e0, e0]
    exact DCmp_eq b1 b2 v1 v2 z1 z2 m m w hG hz1 hz2 hx hy hne r1 r2 rd h'
  · have both : sgnI z1 = sgnI z2 → sgnI z2 ≠ 0 → Calls Tryz.prog 22 #[sd b1 e1, sd b2 e2] w (fun r w' => r = .returned (.int .i64 (cmpZ (z1 * ((10 ^ (e1 - m).toNat : Nat) : Int)) (z2 * ((10 ^ (e2 - m).toNat : Nat) : Int)))) ∧ Fresh w w') := by
      intro hs hs0
      rcases Int.lt_or_gt_of_ne h with k | k
      · have hm' := hlo k
        subst hm'
        rw [e0]
        exact DCmp_lt b1 b2 v1 v2 z1 z2 m e2 w hG hz1 hz2 hx hy hne r1 r2 rd k hs hs0
      · have hm' := hhi k
        subst hm'
        rw [e0]
        exact DCmp_gt b1 b2 v1 v2 z1 z2 e1 m w hG hz1 hz2 hx hy hne r1 r2 rd k hs hs0
    have less := fun hs => DCmp_less b1 b2 v1 v2 z1 z2 e1 e2 w hG hz1 hz2 hx hy hne r1 r2 rd h hs
    have more := fun hs => DCmp_more b1 b2 v1 v2 z1 z2 e1 e2 w hG hz1 hz2 hx hy hne r1 r2 rd h hs
    have nul := fun hs => DCmp_none b1 b2 v1 v2 z1 z2 e1 e2 w hG hz1 hz2 hx hy hne r1 r2 rd h hs
    clear hx hy hz1 hz2 hG hne r1 r2 rd he1 he2 hm hlo hhi heq e0
    have p1 := ten_posI (e1 - m).toNat
    have p2 := ten_posI (e2 - m).toNat
    generalize ((10 ^ (e1 - m).toNat : Nat) : Int) = P1 at *
    generalize ((10 ^ (e2 - m).toNat : Nat) : Int) = P2 at *
    obtain ⟨s1, s2, s3, s4, s5⟩ := cmpZ_signs (z1 := z1) (z2 := z2) p1 p2
    rcases sgnI_ways z1 with ⟨a1, a2⟩ | ⟨a1, a2⟩ | ⟨a1, a2⟩ <;> rcases sgnI_ways z2 with ⟨c1, c2⟩ | ⟨c1, c2⟩ | ⟨c1, c2⟩
    · rw [s2 ⟨a1, c1⟩]; exact nul ⟨a2, c2⟩
    · rw [s4 ⟨Int.le_of_eq a1.symm, c1⟩]; exact more (by rw [a2, c2]; decide)
    · rw [s3 ⟨a1, c1⟩]; exact less (by rw [a2, c2]; decide)
    · rw [s1 ⟨a1, Int.le_of_eq c1.symm⟩]; exact less (by rw [a2, c2]; decide)
    · exact both (by rw [a2, c2]) (by rw [c2]; decide)
    · rw [s1 ⟨a1, Int.le_of_lt c1⟩]; exact less (by rw [a2, c2]; decide)
    · rw [s5 ⟨a1, c1⟩]; exact more (by rw [a2, c2]; decide)
    · rw [s4 ⟨Int.le_of_lt a1, c1⟩]; exact more (by rw [a2, c2]; decide)
    · exact both (by rw [a2, c2]) (by rw [c2]; decide)

set_option maxRecDepth 20000 in
set_option maxHeartbeats 4000000 in
theorem DEqual_any (b1 b2 : Nat) (e1 e2 c : Int) (w : World) (hc : c = -1 ∨ c = 0 ∨ c = 1)
    (hm : ∀ W, Fresh w W → Calls Tryz.prog 22 #[sd b1 e1, sd b2 e2] W (fun r w' => r = .returned (.int .i64 c) ∧ Fresh W w')) :
    Calls Tryz.prog 24 #[sd b1 e1, sd b2 e2] w (fun r w' => r = .returned (.bool (decide (c = 0))) ∧ Fresh w w') := by
  obtain ⟨g, hg⟩ : ∃ g, g = w.heap.size := ⟨_, rfl⟩
  have bx := boxes2 w #[.pointer (some ⟨b1, 0, none⟩), .int .i32 e1] #[.pointer (some ⟨b2, 0, none⟩), .int .i32 e2] 49 49 g hg
  have H_bx := Lib.hid bx; clear bx
  have H_hm := Lib.hid hm; clear hm
  rcases hc with rfl | rfl | rfl
  all_goals
    go_enter Tryz.func24, Tryz.ntmps24
    go_wp2_with (fail)
    generalize hw1 : (w.alloc _).alloc _ = w1
    rw [← hg]
    obtain ⟨r1, r2, hf⟩ := H_bx.out w1 hw1
    have k0 := row_cell r1 0
    have k1 := row_cell r1 1
    have k2 := row_cell r2 0
    have k3 := row_cell r2 1
    simp at k0 k1 k2 k3
    have H_r1 := Lib.hid r1; clear r1
    have H_r2 := Lib.hid r2; clear r2
    have H_hf := Lib.hid hf; clear hf
    have H_hw1 := Lib.hid hw1; clear hw1
    have H_hg := Lib.hid hg; clear hg
    go_wp2_with (fail)
    refine (H_hm.out _ H_hf.out).mono ?_
    rintro r w2 ⟨rfl, f2⟩
    have f2 := fresh_trans H_hf.out f2
    clear k0 k1 k2 k3
    have H_f2 := Lib.hid f2; clear f2
    go_wp2_with (fail)
    go_ret
    exact ⟨rfl, H_f2.out⟩

set_option maxRecDepth 20000 in
set_option maxHeartbeats 4000000 in
theorem DGreaterThan_any (b1 b2 : Nat) (e1 e2 c : Int) (w : World) (hc : c = -1 ∨ c = 0 ∨ c = 1)
    (hm : ∀ W, Fresh w W → Calls Tryz.prog 22 #[sd b1 e1, sd b2 e2] W (fun r w' => r = .returned (.int .i64 c) ∧ Fresh W w')) :
    Calls Tryz.prog 25 #[sd b1 e1, sd b2 e2] w (fun r w' => r = .returned (.bool (decide (c = 1))) ∧ Fresh w w') := by
  obtain ⟨g, hg⟩ : ∃ g, g = w.heap.size := ⟨_, rfl⟩
  have bx := boxes2 w #[.pointer (some ⟨b1, 0, none⟩), .int .i32 e1] #[.pointer (some ⟨b2, 0, none⟩), .int .i32 e2] 49 49 g hg
  have H_bx := Lib.hid bx; clear bx
  have H_hm := Lib.hid hm; clear hm
  rcases hc with rfl | rfl | rfl
  all_goals
    go_enter Tryz.func25, Tryz.ntmps25
    go_wp2_with (fail)
    generalize hw1 : (w.alloc _).alloc _ = w1
    rw [← hg]
    obtain ⟨r1, r2, hf⟩ := H_bx.out w1 hw1
    have k0 := row_cell r1 0
    have k1 := row_cell r1 1
    have k2 := row_cell r2 0
    have k3 := row_cell r2 1
    simp at k0 k1 k2 k3
    have H_r1 := Lib.hid r1; clear r1
    have H_r2 := Lib.hid r2; clear r2
    have H_hf := Lib.hid hf; clear hf
    have H_hw1 := Lib.hid hw1; clear hw1
    have H_hg := Lib.hid hg; clear hg
    go_wp2_with (fail)
    refine (H_hm.out _ H_hf.out).mono ?_
    rintro r w2 ⟨rfl, f2⟩
    have f2 := fresh_trans H_hf.out f2
    clear k0 k1 k2 k3
    have H_f2 := Lib.hid f2; clear f2
    go_wp2_with (fail)
    go_ret
    exact ⟨rfl, H_f2.out⟩

set_option maxRecDepth 20000 in
set_option maxHeartbeats 4000000 in
theorem DGreaterThanOrEqual_any (b1 b2 : Nat) (e1 e2 c : Int) (w : World) (hc : c = -1 ∨ c = 0 ∨ c = 1)
    (hm : ∀ W, Fresh w W → Calls Tryz.prog 22 #[sd b1 e1, sd b2 e2] W (fun r w' => r = .returned (.int .i64 c) ∧ Fresh W w')) :
    Calls Tryz.prog 26 #[sd b1 e1, sd b2 e2] w (fun r w' => r = .returned (.bool (decide (0 ≤ c))) ∧ Fresh w w') := by
  obtain ⟨g, hg⟩ : ∃ g, g = w.heap.size := ⟨_, rfl⟩
  have bx := boxes2 w #[.pointer (some ⟨b1, 0, none⟩), .int .i32 e1] #[.pointer (some ⟨b2, 0, none⟩), .int .i32 e2] 49 49 g hg
  have H_bx := Lib.hid bx; clear bx
  have H_hm := Lib.hid hm; clear hm
  rcases hc with rfl | rfl | rfl
  all_goals
    go_enter Tryz.func26, Tryz.ntmps26
    go_wp2_with (fail)
    generalize hw1 : (w.alloc _).alloc _ = w1
    rw [← hg]
    obtain ⟨r1, r2, hf⟩ := H_bx.out w1 hw1
    have k0 := row_cell r1 0
    have k1 := row_cell r1 1
    have k2 := row_cell r2 0
    have k3 := row_cell r2 1
    simp at k0 k1 k2 k3
    have H_r1 := Lib.hid r1; clear r1
    have H_r2 := Lib.hid r2; clear r2
    have H_hf := Lib.hid hf; clear hf
    have H_hw1 := Lib.hid hw1; clear hw1
    have H_hg := Lib.hid hg; clear hg
    go_wp2_with (fail)
    refine (H_hm.out _ H_hf.out).mono ?_
    rintro r w2 ⟨rfl, f2⟩
    have f2 := fresh_trans H_hf.out f2
    clear k0 k1 k2 k3
    have H_f2 := Lib.hid f2; clear f2
    go_wp2_with (fail)
    go_ret
    exact ⟨rfl, H_f2.out⟩

set_option maxRecDepth 20000 in
set_option maxHeartbeats 4000000 in
theorem DLessThan_any (b1 b2 : Nat) (e1 e2 c : Int) (w : World) (hc : c = -1 ∨ c = 0 ∨ c = 1)
    (hm : ∀ W, Fresh w W → Calls Tryz.prog 22 #[sd b1 e1, sd b2 e2] W (fun r w' => r = .returned (.int .i64 c) ∧ Fresh W w')) :
    Calls Tryz.prog 27 #[sd b1 e1, sd b2 e2] w (fun r w' => r = .returned (.bool (decide (c = -1))) ∧ Fresh w w') := by
  obtain ⟨g, hg⟩ : ∃ g, g = w.heap.size := ⟨_, rfl⟩
  have bx := boxes2 w #[.pointer (some ⟨b1, 0, none⟩), .int .i32 e1] #[.pointer (some ⟨b2, 0, none⟩), .int .i32 e2] 49 49 g hg
  have H_bx := Lib.hid bx; clear bx
  have H_hm := Lib.hid hm; clear hm
  rcases hc with rfl | rfl | rfl
  all_goals
    go_enter Tryz.func27, Tryz.ntmps27
    go_wp2_with (fail)
    generalize hw1 : (w.alloc _).alloc _ = w1
    rw [← hg]
    obtain ⟨r1, r2, hf⟩ := H_bx.out w1 hw1
    have k0 := row_cell r1 0
    have k1 := row_cell r1 1
    have k2 := row_cell r2 0
    have k3 := row_cell r2 1
    simp at k0 k1 k2 k3
    have H_r1 := Lib.hid r1; clear r1
    have H_r2 := Lib.hid r2; clear r2
    have H_hf := Lib.hid hf; clear hf
    have H_hw1 := Lib.hid hw1; clear hw1
    have H_hg := Lib.hid hg; clear hg
    go_wp2_with (fail)
    refine (H_hm.out _ H_hf.out).mono ?_
    rintro r w2 ⟨rfl, f2⟩
    have f2 := fresh_trans H_hf.out f2
    clear k0 k1 k2 k3
    have H_f2 := Lib.hid f2; clear f2
    go_wp2_with (fail)
    go_ret
    exact ⟨rfl, H_f2.out⟩

set_option maxRecDepth 20000 in
set_option maxHeartbeats 4000000 in
theorem DLessThanOrEqual_any (b1 b2 : Nat) (e1 e2 c : Int) (w : World) (hc : c = -1 ∨ c = 0 ∨ c = 1)
    (hm : ∀ W, Fresh w W → Calls Tryz.prog 22 #[sd b1 e1, sd b2 e2] W (fun r w' => r = .returned (.int .i64 c) ∧ Fresh W w')) :
    Calls Tryz.prog 28 #[sd b1 e1, sd b2 e2] w (fun r w' => r = .returned (.bool (decide (c ≤ 0))) ∧ Fresh w w') := by
  obtain ⟨g, hg⟩ : ∃ g, g = w.heap.size := ⟨_, rfl⟩
  have bx := boxes2 w #[.pointer (some ⟨b1, 0, none⟩), .int .i32 e1] #[.pointer (some ⟨b2, 0, none⟩), .int .i32 e2] 49 49 g hg
  have H_bx := Lib.hid bx; clear bx
  have H_hm := Lib.hid hm; clear hm
  rcases hc with rfl | rfl | rfl
  all_goals
    go_enter Tryz.func28, Tryz.ntmps28
    go_wp2_with (fail)
    generalize hw1 : (w.alloc _).alloc _ = w1
    rw [← hg]
    obtain ⟨r1, r2, hf⟩ := H_bx.out w1 hw1
    have k0 := row_cell r1 0
    have k1 := row_cell r1 1
    have k2 := row_cell r2 0
    have k3 := row_cell r2 1
    simp at k0 k1 k2 k3
    have H_r1 := Lib.hid r1; clear r1
    have H_r2 := Lib.hid r2; clear r2
    have H_hf := Lib.hid hf; clear hf
    have H_hw1 := Lib.hid hw1; clear hw1
    have H_hg := Lib.hid hg; clear hg
    go_wp2_with (fail)
    refine (H_hm.out _ H_hf.out).mono ?_
    rintro r w2 ⟨rfl, f2⟩
    have f2 := fresh_trans H_hf.out f2
    clear k0 k1 k2 k3
    have H_f2 := Lib.hid f2; clear f2
    go_wp2_with (fail)
    go_ret
    exact ⟨rfl, H_f2.out⟩

end Go.Proofs.YtjjolcjeiogdmaaGreatDoor
