/- Products by whole numbers of any length: mulBint. -/
import Derived.Test.YtjdfapoomjeabaaGreatDoorK48
namespace Go.Proofs.YtjdfapoomjeabaaGreatDoor
open Go.RowKit

set_option maxRecDepth 20000 in
set_option maxHeartbeats 4000000 in
theorem mulBint_go (m1 m2 : Bool) (c1 s1 c2 s2 : Nat) (w : World) (hG : Glob w) (hP : Pow10s w) (ms : Nat) (hs1 : s1 ≤ 19) (hs2 : s2 ≤ 19) (hc1 : c1 ≤ 9999999999999999999) (hc2 : c2 ≤ 9999999999999999999) (nz : Bool) (sz cz : Nat) (Pv : Value → Prop)
    (hnb : ∀ V v, Fresh w V → (∀ k, v.ownBlock = some k → w.heap.size + 5 ≤ k) → BI V (w.heap.size + 3) v (c1 * c2) → Calls Tryz.prog 108 #[.bool (m1 != m2), .pointer (some ⟨w.heap.size + 3, 0, none⟩), .int .i64 (s1 + s2 : Nat), .int .i64 ms] V (NBOut V (w.heap.size + 3) v nz sz cz Pv)) :
    Calls Tryz.prog 88 #[gd m1 s1 c1, gd m2 s2 c2, .int .i64 ms] w (DOut w nz sz cz Pv) := by
  have hcw1 : c1 < wpow 39 := wpow_big (by omega)
  have hcw2 : c2 < wpow 39 := wpow_big (by omega)
  have hsI : (s1 : Int) + (s2 : Int) = ((s1 + s2 : Nat) : Int) := by omega
  obtain ⟨S, hS⟩ : ∃ S, S = s1 + s2 := ⟨_, rfl⟩
  rw [← hS] at hsI hnb
  have hSw : IntKind.i64.wrap (S : Int) = (S : Int) := wrap_nat S (by omega)
  clear hS
  obtain ⟨g, hg⟩ : ∃ g, g = w.heap.size := ⟨_, rfl⟩
  have hsz0 : NG ≤ w.heap.size := hG.size
  have bx := boxes3 w #[.bool m1, .int .i8 s1, .int .u64 c1] #[.bool m2, .int .i8 s2, .int .u64 c2] #[.bool false, .int .i8 0, .int .u64 0] 50 50 50 g hg
  rw [← hg] at hnb
  have H_bx := Lib.hid bx; clear bx
  have H_hsz0 := Lib.hid hsz0; clear hsz0
  have H_hG := Lib.hid hG; clear hG
  have H_hP := Lib.hid hP; clear hP
  have H_hnb := Lib.hid hnb; clear hnb
  have H_hcw1 := Lib.hid hcw1; clear hcw1
  have H_hcw2 := Lib.hid hcw2; clear hcw2
  have H_hs1 := Lib.hid hs1; clear hs1
  have H_hs2 := Lib.hid hs2; clear hs2
  have H_hc1 := Lib.hid hc1; clear hc1
  have H_hc2 := Lib.hid hc2; clear hc2
  go_enter_defers Tryz.func88, Tryz.ntmps88
  go_wp2_with (fail)
  generalize hw1 : ((w.alloc _).alloc _).alloc _ = w1
  rw [← hg]
  obtain ⟨r1, r2, r3, fa, _⟩ := H_bx.out w1 hw1
  have sz1 : w1.heap.size = g + 3 := by rw [← hw1, hg]; simp
  have hb1 := getBint_any w1 (by have := H_hsz0.out; omega)
  rw [sz1] at hb1
  have H_r1 := Lib.hid r1; clear r1
  have H_r2 := Lib.hid r2; clear r2
  have H_r3 := Lib.hid r3; clear r3
  have H_fa := Lib.hid fa; clear fa
  have H_hw1 := Lib.hid hw1; clear hw1
  have H_hg := Lib.hid hg; clear hg
  have H_hb1 := Lib.hid hb1; clear hb1
  have H_sz1 := Lib.hid sz1; clear sz1
  go_wp2_with (fail)
  refine H_hb1.out.mono ?_
  rintro e w2 ⟨rfl, z2, f2, sz2⟩
  have sz2' : w2.heap.size = g + 4 := by omega
  have hb2 := getBint_any w2 (by have := H_hsz0.out; have := H_hg.out; omega)
  rw [sz2'] at hb2
  have H_z2 := Lib.hid z2; clear z2
  have H_f2 := Lib.hid f2; clear f2
  have H_sz2 := Lib.hid sz2; clear sz2
  have H_sz2' := Lib.hid sz2'; clear sz2'
  have H_hb2 := Lib.hid hb2; clear hb2
  go_wp2_with (fail)
  refine H_hb2.out.mono ?_
  rintro e w3 ⟨rfl, y3, f3, sz3⟩
  have ff := fresh_trans H_f2.out f3
  have bs : BS w w3 g m1 m2 c1 s1 c2 s2 (.slice none 0 0) (.slice none 0 0) 0 0 := ⟨row_fresh H_r1.out ff, row_fresh H_r2.out ff, row_fresh H_r3.out ff, H_z2.out.fresh f3, y3, fun k h => by simp [Value.ownBlock] at h, fun k h => by simp [Value.ownBlock] at h, fun k h => by simp [Value.ownBlock] at h, fresh_trans H_fa.out ff, H_hg.out, by omega⟩
  clear H_r1 H_r2 H_r3 H_fa H_z2 H_f2 y3 f3 sz3 ff
  have k0 := row_cell bs.r1 0
  have k1 := row_cell bs.r1 1
  have k2 := row_cell bs.r1 2
  have k3 := row_cell bs.r2 0
  have k4 := row_cell bs.r2 1
  have k5 := row_cell bs.r2 2
  simp at k0 k1 k2 k3 k4 k5
  have H_bs := Lib.hid bs; clear bs
  go_wp2_with (fail)
  refine (setFint_any (g + 3) _ 0 c1 _ (by have := H_hc1.out; omega) H_bs.out.z).mono ?_
  rintro e w4 ⟨rfl, hbs⟩
  obtain ⟨x4, bs⟩ := H_bs.out.setP hbs
  clear H_bs hbs
  clear k0 k1 k2 k3 k4 k5
  have k0 := row_cell bs.r1 0
  have k1 := row_cell bs.r1 1
  have k2 := row_cell bs.r1 2
  have k3 := row_cell bs.r2 0
  have k4 := row_cell bs.r2 1
  have k5 := row_cell bs.r2 2
  simp at k0 k1 k2 k3 k4 k5
  have H_bs := Lib.hid bs; clear bs
  go_wp2_with (fail)
  refine (Scale_any m1 s1 c1 _ H_hs1.out).mono ?_
  rintro e w5 ⟨rfl, f9⟩
  have bs := H_bs.out.fresh f9
  clear H_bs f9
  clear k0 k1 k2 k3 k4 k5
  have k0 := row_cell bs.r1 0
  have k1 := row_cell bs.r1 1
  have k2 := row_cell bs.r1 2
  have k3 := row_cell bs.r2 0
  have k4 := row_cell bs.r2 1
  have k5 := row_cell bs.r2 2
  simp at k0 k1 k2 k3 k4 k5
  have H_bs := Lib.hid bs; clear bs
  go_wp2_with (fail)
  refine (IsNeg_any m1 s1 c1 _).mono ?_
  rintro e w6 ⟨rfl, f9⟩
  have bs := H_bs.out.fresh f9
  clear H_bs f9
  clear k0 k1 k2 k3 k4 k5
  have k0 := row_cell bs.r1 0
  have k1 := row_cell bs.r1 1
  have k2 := row_cell bs.r1 2
  have k3 := row_cell bs.r2 0
  have k4 := row_cell bs.r2 1
  have k5 := row_cell bs.r2 2
  simp at k0 k1 k2 k3 k4 k5
  have H_bs := Lib.hid bs; clear bs
  go_wp2_with (fail)
  refine (setFint_any (g + 4) _ 0 c2 _ (by have := H_hc2.out; omega) H_bs.out.y).mono ?_
  rintro e w7 ⟨rfl, hbs⟩
  obtain ⟨x7, bs⟩ := H_bs.out.setQ hbs
  clear H_bs hbs
  clear k0 k1 k2 k3 k4 k5
  have k0 := row_cell bs.r1 0
  have k1 := row_cell bs.r1 1
  have k2 := row_cell bs.r1 2
  have k3 := row_cell bs.r2 0
  have k4 := row_cell bs.r2 1
  have k5 := row_cell bs.r2 2
  simp at k0 k1 k2 k3 k4 k5
  have H_bs := Lib.hid bs; clear bs
  go_wp2_with (fail)
  refine (mul_self (g + 3) (g + 4) _ _ c1 c2 _ (H_hG.out.fresh H_bs.out.f) H_hcw1.out H_hcw2.out (by omega) H_bs.out.z H_bs.out.y (.inr H_bs.out.od)).mono ?_
  rintro e w8 ⟨rfl, hbs⟩
  obtain ⟨x8, bs⟩ := H_bs.out.setP hbs
  clear H_bs hbs
  clear k0 k1 k2 k3 k4 k5
  have k0 := row_cell bs.r1 0
  have k1 := row_cell bs.r1 1
  have k2 := row_cell bs.r1 2
  have k3 := row_cell bs.r2 0
  have k4 := row_cell bs.r2 1
  have k5 := row_cell bs.r2 2
  simp at k0 k1 k2 k3 k4 k5
  have H_bs := Lib.hid bs; clear bs
  go_wp2_with (fail)
  refine (IsNeg_any m2 s2 c2 _).mono ?_
  rintro e w9 ⟨rfl, f9⟩
  have bs := H_bs.out.fresh f9
  clear H_bs f9
  clear k0 k1 k2 k3 k4 k5
  have k0 := row_cell bs.r1 0
  have k1 := row_cell bs.r1 1
  have k2 := row_cell bs.r1 2
  have k3 := row_cell bs.r2 0
  have k4 := row_cell bs.r2 1
  have k5 := row_cell bs.r2 2
  simp at k0 k1 k2 k3 k4 k5
  have H_bs := Lib.hid bs; clear bs
  go_wp2_with (fail)
  refine (Scale_any m2 s2 c2 _ H_hs2.out).mono ?_
  rintro e w10 ⟨rfl, f9⟩
  have bs := H_bs.out.fresh f9
  clear H_bs f9
  clear k0 k1 k2 k3 k4 k5
  have k0 := row_cell bs.r1 0
  have k1 := row_cell bs.r1 1
  have k2 := row_cell bs.r1 2
  have k3 := row_cell bs.r2 0
  have k4 := row_cell bs.r2 1
  have k5 := row_cell bs.r2 2
  simp at k0 k1 k2 k3 k4 k5
  have H_bs := Lib.hid bs; clear bs
  go_wp2_with (fail)
  refine (H_hnb.out _ _ H_bs.out.f (fun k h => H_bs.out.ov k h) H_bs.out.z).mono ?_
  rintro e w11 ⟨ev, rfl, hev, k9⟩
  have r3 := row_keep H_bs.out.r3 k9 (fun hh => hh.elim (fun h => by omega) (fun h => by have := H_bs.out.ov _ h; omega))
  have fa : Fresh w w11 := H_bs.out.f.trans k9 (fun _ _ h => h) (fun k hk hh => by
    have := H_bs.out.hg
    rcases hh with rfl | hh
    · omega
    · have := H_bs.out.ov k hh; omega)
  have p0 := row_cell r3 0
  have p1 := row_cell r3 1
  have p2 := row_cell r3 2
  simp at p0 p1 p2
  have z0 : w11.frozen? ⟨g + 1 + 1, 0, none⟩ = false := frozen_of_row _ _ _ _ _ r3
  have z1 : w11.frozen? ⟨g + 1 + 1, 1, none⟩ = false := frozen_of_row _ _ _ _ _ r3
  have z2 : w11.frozen? ⟨g + 1 + 1, 2, none⟩ = false := frozen_of_row _ _ _ _ _ r3
  clear k9 k0 k1 k2 k3 k4 k5
  have H_r3 := Lib.hid r3; clear r3
  have H_fa := Lib.hid fa; clear fa
  have H_hev := Lib.hid hev; clear hev
  go_wp2_with (fail)
  refine leaves_cons (f := 102) (args := #[.pointer (some ⟨g + 4, 0, none⟩)]) (by simp) (by simp [go_sem]) ?_
  refine (putBint_idle _ _).mono ?_
  rintro e u' w'' ⟨rfl, rfl, rfl⟩
  refine leaves_cons (f := 102) (args := #[.pointer (some ⟨g + 3, 0, none⟩)]) (by first | (intro h; cases h; done) | simp [settle]) (by simp [go_sem]) ?_
  refine (putBint_idle _ _).mono ?_
  rintro e u2 wf ⟨rfl, rfl, rfl⟩
  refine ⟨_, results_cell_tmp_row rfl _ _ (g + 1 + 1) 50 #[.bool nz, .int .i8 sz, .int .u64 cz] (0, 0) _ rfl (row_set (row_set (row_set H_r3.out))) Tryz.underlying50 rfl (by kernel_rfl), ?_⟩
  exact ⟨ev, rfl, H_hev.out, Fresh.set3 H_fa.out (by have := H_hg.out; omega)⟩

end Go.Proofs.YtjdfapoomjeabaaGreatDoor

/- Products by whole numbers of any length: a result, or no room. -/
namespace Go.Proofs.YtjdfapoomjeabaaGreatDoor
open Go.RowKit

theorem mulBint_law (m1 m2 : Bool) (c1 s1 c2 s2 ms : Nat) (hms : ms ≤ 19) (hs1 : s1 ≤ 19) (hs2 : s2 ≤ 19) (hc1 : c1 ≤ 9999999999999999999) (hc2 : c2 ≤ 9999999999999999999) :
    (¬ okN (zfix m1 c1 * zfix m2 c2).natAbs (10 ^ s1 * 10 ^ s2) ms ∧ ∀ w, Glob w → Pow10s w → Calls Tryz.prog 88 #[gd m1 s1 c1, gd m2 s2 c2, .int .i64 ms] w (ClampErr w)) ∨
    ∃ nz sz cz, (∀ w, Glob w → Pow10s w → Calls Tryz.prog 88 #[gd m1 s1 c1, gd m2 s2 c2, .int .i64 ms] w (VRet w (.tuple #[gd nz sz cz, .nilIface]))) ∧ ResOK (zfix m1 c1 * zfix m2 c2) (10 ^ s1 * 10 ^ s2) ms nz sz cz := by
  have hd : 0 < 10 ^ s1 * 10 ^ s2 := Nat.mul_pos (Nat.pow_pos (by omega)) (Nat.pow_pos (by omega))
  have hsn := mul_sign m1 m2 c1 c2
  exact bint_core _ _ (m1 != m2) (c1 * c2) (s1 + s2) ms _ _ hd (mul_lt38 hc1 hc2) (by omega) hms (mul_frac m1 m2 c1 s1 c2 s2) hsn.1 hsn.2
    (fun w nz sz cz Pv hG hP hnb => mulBint_go m1 m2 c1 s1 c2 s2 w hG hP ms hs1 hs2 hc1 hc2 nz sz cz Pv hnb)

end Go.Proofs.YtjdfapoomjeabaaGreatDoor
