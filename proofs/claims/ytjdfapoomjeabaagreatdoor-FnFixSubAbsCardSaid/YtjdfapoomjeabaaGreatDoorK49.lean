/- Sums by whole numbers of any length: addBint. -/
import Derived.Test.YtjdfapoomjeabaaGreatDoorK48
namespace Go.Proofs.YtjdfapoomjeabaaGreatDoor
open Go.RowKit

set_option maxRecDepth 20000 in
set_option maxHeartbeats 4000000 in
theorem addBint_gt_same (m1 m2 : Bool) (c1 s1 c2 s2 : Nat) (w : World) (hG : Glob w) (hP : Pow10s w) (ms : Nat) (hs1 : s1 ≤ 19) (hs2 : s2 ≤ 19) (hc1 : c1 ≤ 9999999999999999999) (hc2 : c2 ≤ 9999999999999999999) (hsc : s2 < s1) (hsg : m1 = m2) (nz : Bool) (sz cz : Nat) (Pv : Value → Prop)
    (hnb : ∀ V v, Fresh w V → (∀ k, v.ownBlock = some k → w.heap.size + 5 ≤ k) → BI V (w.heap.size + 3) v (c1 + c2 * 10 ^ (s1 - s2)) → Calls Tryz.prog 108 #[.bool m1, .pointer (some ⟨w.heap.size + 3, 0, none⟩), .int .i64 (s1 : Nat), .int .i64 ms] V (NBOut V (w.heap.size + 3) v nz sz cz Pv)) :
    Calls Tryz.prog 86 #[gd m1 s1 c1, gd m2 s2 c2, .int .i64 ms] w (DOut w nz sz cz Pv) := by
  have hcw1 : c1 < wpow 39 := wpow_big (by omega)
  have hcw2 : c2 < wpow 39 := wpow_big (by omega)
  have t1 : decide ((s2 : Int) < (s1 : Int)) = true := by simp; omega
  have hbw : c2 * 10 ^ (s1 - s2) < wpow 39 := scaled_lt hc2 (by omega)
  obtain ⟨k, hk⟩ : ∃ k, k = s1 - s2 := ⟨_, rfl⟩
  have hkI : (s1 : Int) - (s2 : Int) = (k : Int) := by omega
  have hk19 : k ≤ 19 := by omega
  have hkw : IntKind.i64.wrap (k : Int) = (k : Int) := wrap_nat k (by omega)
  rw [← hk] at hbw hnb
  have hlsh := fun g v W (hG : Glob W) (hP : Pow10s W) => lsh_self g v c2 k W hG hP hcw2 hk19
  obtain ⟨b, hb⟩ : ∃ b, b = c2 * 10 ^ k := ⟨_, rfl⟩
  rw [← hb] at hbw hnb hlsh
  clear hb hk hk19
  subst hsg
  obtain ⟨g, hg⟩ : ∃ g, g = w.heap.size := ⟨_, rfl⟩
  have hsz0 : NG ≤ w.heap.size := hG.size
  have bx := boxes3 w #[.bool m1, .int .i8 s1, .int .u64 c1] #[.bool m1, .int .i8 s2, .int .u64 c2] #[.bool false, .int .i8 0, .int .u64 0] 50 50 50 g hg
  rw [← hg] at hnb
  have H_bx := Lib.hid bx; clear bx
  have H_hsz0 := Lib.hid hsz0; clear hsz0
  have H_hG := Lib.hid hG; clear hG
  have H_hP := Lib.hid hP; clear hP
  have H_hnb := Lib.hid hnb; clear hnb
  have H_hcw1 := Lib.hid hcw1; clear hcw1
  have H_hcw2 := Lib.hid hcw2; clear hcw2
  have H_hs1 := Lib.hid hs1; clear hs1
  have H_hs2 := Lib.hid hs2; clear hs2
  have H_hc1 := Lib.hid hc1; clear hc1
  have H_hc2 := Lib.hid hc2; clear hc2
  have H_hlsh := Lib.hid hlsh; clear hlsh
  have H_hbw := Lib.hid hbw; clear hbw
  go_enter_defers Tryz.func86, Tryz.ntmps86
  go_wp2_with (fail)
  generalize hw1 : ((w.alloc _).alloc _).alloc _ = w1
  rw [← hg]
  obtain ⟨r1, r2, r3, fa, _⟩ := H_bx.out w1 hw1
  have sz1 : w1.heap.size = g + 3 := by rw [← hw1, hg]; simp
  have hb1 := getBint_any w1 (by have := H_hsz0.out; omega)
  rw [sz1] at hb1
  have H_r1 := Lib.hid r1; clear r1
  have H_r2 := Lib.hid r2; clear r2
  have H_r3 := Lib.hid r3; clear r3
  have H_fa := Lib.hid fa; clear fa
  have H_hw1 := Lib.hid hw1; clear hw1
  have H_hg := Lib.hid hg; clear hg
  have H_hb1 := Lib.hid hb1; clear hb1
  have H_sz1 := Lib.hid sz1; clear sz1
  go_wp2_with (fail)
  refine H_hb1.out.mono ?_
  rintro e w2 ⟨rfl, z2, f2, sz2⟩
  have sz2' : w2.heap.size = g + 4 := by omega
  have hb2 := getBint_any w2 (by have := H_hsz0.out; have := H_hg.out; omega)
  rw [sz2'] at hb2
  have H_z2 := Lib.hid z2; clear z2
  have H_f2 := Lib.hid f2; clear f2
  have H_sz2 := Lib.hid sz2; clear sz2
  have H_sz2' := Lib.hid sz2'; clear sz2'
  have H_hb2 := Lib.hid hb2; clear hb2
  go_wp2_with (fail)
  refine H_hb2.out.mono ?_
  rintro e w3 ⟨rfl, y3, f3, sz3⟩
  have ff := fresh_trans H_f2.out f3
  have bs : BS w w3 g m1 m1 c1 s1 c2 s2 (.slice none 0 0) (.slice none 0 0) 0 0 := ⟨row_fresh H_r1.out ff, row_fresh H_r2.out ff, row_fresh H_r3.out ff, H_z2.out.fresh f3, y3, fun k h => by simp [Value.ownBlock] at h, fun k h => by simp [Value.ownBlock] at h, fun k h => by simp [Value.ownBlock] at h, fresh_trans H_fa.out ff, H_hg.out, by omega⟩
  clear H_r1 H_r2 H_r3 H_fa H_z2 H_f2 y3 f3 sz3 ff
  obtain ⟨k0, k1, k2, k3, k4, k5⟩ := bs.cells
  have H_bs := Lib.hid bs; clear bs
  go_wp2_with (fail)
  refine (setFint_any (g + 3) _ 0 c1 _ (by have := H_hc1.out; omega) H_bs.out.z).mono ?_
  rintro e w4 ⟨rfl, hbs⟩
  obtain ⟨x4, bs⟩ := H_bs.out.setP hbs
  clear H_bs hbs
  clear k0 k1 k2 k3 k4 k5
  obtain ⟨k0, k1, k2, k3, k4, k5⟩ := bs.cells
  have H_bs := Lib.hid bs; clear bs
  go_wp2_with (fail)
  refine (Scale_any m1 s1 c1 _ H_hs1.out).mono ?_
  rintro e w5 ⟨rfl, f9⟩
  have bs := H_bs.out.fresh f9
  clear H_bs f9
  clear k0 k1 k2 k3 k4 k5
  obtain ⟨k0, k1, k2, k3, k4, k5⟩ := bs.cells
  have H_bs := Lib.hid bs; clear bs
  go_wp2_with (fail)
  refine (setFint_any (g + 4) _ 0 c2 _ (by have := H_hc2.out; omega) H_bs.out.y).mono ?_
  rintro e w6 ⟨rfl, hbs⟩
  obtain ⟨x6, bs⟩ := H_bs.out.setQ hbs
  clear H_bs hbs
  clear k0 k1 k2 k3 k4 k5
  obtain ⟨k0, k1, k2, k3, k4, k5⟩ := bs.cells
  have H_bs := Lib.hid bs; clear bs
  go_wp2_with (fail)
  refine (IsNeg_any m1 s1 c1 _).mono ?_
  rintro e w7 ⟨rfl, f9⟩
  have bs := H_bs.out.fresh f9
  clear H_bs f9
  clear k0 k1 k2 k3 k4 k5
  obtain ⟨k0, k1, k2, k3, k4, k5⟩ := bs.cells
  have H_bs := Lib.hid bs; clear bs
  go_wp2_with (fail)
  refine (Scale_any m1 s2 c2 _ H_hs2.out).mono ?_
  rintro e w8 ⟨rfl, f9⟩
  have bs := H_bs.out.fresh f9
  clear H_bs f9
  clear k0 k1 k2 k3 k4 k5
  obtain ⟨k0, k1, k2, k3, k4, k5⟩ := bs.cells
  have H_bs := Lib.hid bs; clear bs
  go_wp2_with (fail)
  refine (Scale_any m1 s2 c2 _ H_hs2.out).mono ?_
  rintro e w9 ⟨rfl, f9⟩
  have bs := H_bs.out.fresh f9
  clear H_bs f9
  clear k0 k1 k2 k3 k4 k5
  obtain ⟨k0, k1, k2, k3, k4, k5⟩ := bs.cells
  have H_bs := Lib.hid bs; clear bs
  go_wp2_with (fail)
  refine (H_hlsh.out (g + 4) _ _ (H_hG.out.fresh H_bs.out.f) (H_hP.out.fresh H_bs.out.f) H_bs.out.y).mono ?_
  rintro e w10 ⟨rfl, hbs⟩
  obtain ⟨x10, bs⟩ := H_bs.out.setQ hbs
  clear H_bs hbs
  clear k0 k1 k2 k3 k4 k5
  obtain ⟨k0, k1, k2, k3, k4, k5⟩ := bs.cells
  have H_bs := Lib.hid bs; clear bs
  go_wp2_with (fail)
  refine (IsNeg_any m1 s2 c2 _).mono ?_
  rintro e w11 ⟨rfl, f9⟩
  have bs := H_bs.out.fresh f9
  clear H_bs f9
  clear k0 k1 k2 k3 k4 k5
  obtain ⟨k0, k1, k2, k3, k4, k5⟩ := bs.cells
  have H_bs := Lib.hid bs; clear bs
  go_wp2_with (fail)
  refine (badd_any (g + 3) (g + 3) (g + 4) _ _ _ c1 c1 b _ H_hcw1.out H_hbw.out H_bs.out.z H_bs.out.z H_bs.out.y (.inl rfl) (.inr H_bs.out.od)).mono ?_
  rintro e w12 ⟨rfl, hbs⟩
  obtain ⟨x12, bs⟩ := H_bs.out.setP hbs
  clear H_bs hbs
  clear k0 k1 k2 k3 k4 k5
  obtain ⟨k0, k1, k2, k3, k4, k5⟩ := bs.cells
  have H_bs := Lib.hid bs; clear bs
  go_wp2_with (fail)
  refine (H_hnb.out _ _ H_bs.out.f (fun k h => H_bs.out.ov k h) H_bs.out.z).mono ?_
  rintro e w13 ⟨ev, rfl, hev, k9⟩
  have r3 := row_keep H_bs.out.r3 k9 (fun hh => hh.elim (fun h => by omega) (fun h => by have := H_bs.out.ov _ h; omega))
  have fa : Fresh w w13 := H_bs.out.f.trans k9 (fun _ _ h => h) (fun k hk hh => by
    have := H_bs.out.hg
    rcases hh with rfl | hh
    · omega
    · have := H_bs.out.ov k hh; omega)
  have p0 := row_cell r3 0
  have p1 := row_cell r3 1
  have p2 := row_cell r3 2
  simp at p0 p1 p2
  have z0 : w13.frozen? ⟨g + 1 + 1, 0, none⟩ = false := frozen_of_row _ _ _ _ _ r3
  have z1 : w13.frozen? ⟨g + 1 + 1, 1, none⟩ = false := frozen_of_row _ _ _ _ _ r3
  have z2 : w13.frozen? ⟨g + 1 + 1, 2, none⟩ = false := frozen_of_row _ _ _ _ _ r3
  clear k9 k0 k1 k2 k3 k4 k5
  have H_r3 := Lib.hid r3; clear r3
  have H_fa := Lib.hid fa; clear fa
  have H_hev := Lib.hid hev; clear hev
  go_wp2_with (fail)
  refine leaves_cons (f := 102) (args := #[.pointer (some ⟨g + 4, 0, none⟩)]) (by simp) (by simp [go_sem]) ?_
  refine (putBint_idle _ _).mono ?_
  rintro e u' w'' ⟨rfl, rfl, rfl⟩
  refine leaves_cons (f := 102) (args := #[.pointer (some ⟨g + 3, 0, none⟩)]) (by first | (intro h; cases h; done) | simp [settle]) (by simp [go_sem]) ?_
  refine (putBint_idle _ _).mono ?_
  rintro e u2 wf ⟨rfl, rfl, rfl⟩
  refine ⟨_, results_cell_tmp_row rfl _ _ (g + 1 + 1) 50 #[.bool nz, .int .i8 sz, .int .u64 cz] (0, 0) _ rfl (row_set (row_set (row_set H_r3.out))) Tryz.underlying50 rfl (by kernel_rfl), ?_⟩
  exact ⟨ev, rfl, H_hev.out, Fresh.set3 H_fa.out (by have := H_hg.out; omega)⟩

set_option maxRecDepth 20000 in
set_option maxHeartbeats 4000000 in
theorem addBint_gt_less (m1 m2 : Bool) (c1 s1 c2 s2 : Nat) (w : World) (hG : Glob w) (hP : Pow10s w) (ms : Nat) (hs1 : s1 ≤ 19) (hs2 : s2 ≤ 19) (hc1 : c1 ≤ 9999999999999999999) (hc2 : c2 ≤ 9999999999999999999) (hsc : s2 < s1) (hsg : m1 ≠ m2) (hsum : c1 < c2 * 10 ^ (s1 - s2)) (nz : Bool) (sz cz : Nat) (Pv : Value → Prop)
    (hnb : ∀ V v, Fresh w V → (∀ k, v.ownBlock = some k → w.heap.size + 5 ≤ k) → BI V (w.heap.size + 3) v (adf (c1) (c2 * 10 ^ (s1 - s2))) → Calls Tryz.prog 108 #[.bool m2, .pointer (some ⟨w.heap.size + 3, 0, none⟩), .int .i64 (s1 : Nat), .int .i64 ms] V (NBOut V (w.heap.size + 3) v nz sz cz Pv)) :
    Calls Tryz.prog 86 #[gd m1 s1 c1, gd m2 s2 c2, .int .i64 ms] w (DOut w nz sz cz Pv) := by
  have hcw1 : c1 < wpow 39 := wpow_big (by omega)
  have hcw2 : c2 < wpow 39 := wpow_big (by omega)
  have t1 : decide ((s2 : Int) < (s1 : Int)) = true := by simp; omega
  have hbw : c2 * 10 ^ (s1 - s2) < wpow 39 := scaled_lt hc2 (by omega)
  obtain ⟨k, hk⟩ : ∃ k, k = s1 - s2 := ⟨_, rfl⟩
  have hkI : (s1 : Int) - (s2 : Int) = (k : Int) := by omega
  have hk19 : k ≤ 19 := by omega
  have hkw : IntKind.i64.wrap (k : Int) = (k : Int) := wrap_nat k (by omega)
  rw [← hk] at hbw hnb hsum
  have hlsh := fun g v W (hG : Glob W) (hP : Pow10s W) => lsh_self g v c2 k W hG hP hcw2 hk19
  obtain ⟨b, hb⟩ : ∃ b, b = c2 * 10 ^ k := ⟨_, rfl⟩
  rw [← hb] at hbw hnb hlsh hsum
  clear hb hk hk19
  have t4 : (m1 == m2) = false := by simpa using hsg
  have t5 : cmpN (b) (c1) = 1 := by unfold cmpN; rw [if_neg (by omega), if_pos hsum]
  have t6 : (if b ≤ c1 then c1 - b else b - c1) = adf c1 b := by unfold adf; split <;> split <;> omega
  have H_hsg := Lib.hid hsg
  clear hsg
  generalize adf c1 b = q at *
  obtain ⟨g, hg⟩ : ∃ g, g = w.heap.size := ⟨_, rfl⟩
  have hsz0 : NG ≤ w.heap.size := hG.size
  have bx := boxes3 w #[.bool m1, .int .i8 s1, .int .u64 c1] #[.bool m2, .int .i8 s2, .int .u64 c2] #[.bool false, .int .i8 0, .int .u64 0] 50 50 50 g hg
  rw [← hg] at hnb
  have H_bx := Lib.hid bx; clear bx
  have H_hsz0 := Lib.hid hsz0; clear hsz0
  have H_hG := Lib.hid hG; clear hG
  have H_hP := Lib.hid hP; clear hP
  have H_hnb := Lib.hid hnb; clear hnb
  have H_hcw1 := Lib.hid hcw1; clear hcw1
  have H_hcw2 := Lib.hid hcw2; clear hcw2
  have H_hs1 := Lib.hid hs1; clear hs1
  have H_hs2 := Lib.hid hs2; clear hs2
  have H_hc1 := Lib.hid hc1; clear hc1
  have H_hc2 := Lib.hid hc2; clear hc2
  have H_hlsh := Lib.hid hlsh; clear hlsh
  have H_hbw := Lib.hid hbw; clear hbw
  have H_hsum := Lib.hid hsum; clear hsum
  have H_t6 := Lib.hid t6; clear t6
  have H_t5 := Lib.hid t5; clear t5
  go_enter_defers Tryz.func86, Tryz.ntmps86
  go_wp2_with (fail)
  generalize hw1 : ((w.alloc _).alloc _).alloc _ = w1
  rw [← hg]
  obtain ⟨r1, r2, r3, fa, _⟩ := H_bx.out w1 hw1
  have sz1 : w1.heap.size = g + 3 := by rw [← hw1, hg]; simp
  have hb1 := getBint_any w1 (by have := H_hsz0.out; omega)
  rw [sz1] at hb1
  have H_r1 := Lib.hid r1; clear r1
  have H_r2 := Lib.hid r2; clear r2
  have H_r3 := Lib.hid r3; clear r3
  have H_fa := Lib.hid fa; clear fa
  have H_hw1 := Lib.hid hw1; clear hw1
  have H_hg := Lib.hid hg; clear hg
  have H_hb1 := Lib.hid hb1; clear hb1
  have H_sz1 := Lib.hid sz1; clear sz1
  go_wp2_with (fail)
  refine H_hb1.out.mono ?_
  rintro e w2 ⟨rfl, z2, f2, sz2⟩
  have sz2' : w2.heap.size = g + 4 := by omega
  have hb2 := getBint_any w2 (by have := H_hsz0.out; have := H_hg.out; omega)
  rw [sz2'] at hb2
  have H_z2 := Lib.hid z2; clear z2
  have H_f2 := Lib.hid f2; clear f2
  have H_sz2 := Lib.hid sz2; clear sz2
  have H_sz2' := Lib.hid sz2'; clear sz2'
  have H_hb2 := Lib.hid hb2; clear hb2
  go_wp2_with (fail)
  refine H_hb2.out.mono ?_
  rintro e w3 ⟨rfl, y3, f3, sz3⟩
  have ff := fresh_trans H_f2.out f3
  have bs : BS w w3 g m1 m2 c1 s1 c2 s2 (.slice none 0 0) (.slice none 0 0) 0 0 := ⟨row_fresh H_r1.out ff, row_fresh H_r2.out ff, row_fresh H_r3.out ff, H_z2.out.fresh f3, y3, fun k h => by simp [Value.ownBlock] at h, fun k h => by simp [Value.ownBlock] at h, fun k h => by simp [Value.ownBlock] at h, fresh_trans H_fa.out ff, H_hg.out, by omega⟩
  clear H_r1 H_r2 H_r3 H_fa H_z2 H_f2 y3 f3 sz3 ff
  obtain ⟨k0, k1, k2, k3, k4, k5⟩ := bs.cells
  have H_bs := Lib.hid bs; clear bs
  go_wp2_with (fail)
  refine (setFint_any (g + 3) _ 0 c1 _ (by have := H_hc1.out; omega) H_bs.out.z).mono ?_
  rintro e w4 ⟨rfl, hbs⟩
  obtain ⟨x4, bs⟩ := H_bs.out.setP hbs
  clear H_bs hbs
  clear k0 k1 k2 k3 k4 k5
  obtain ⟨k0, k1, k2, k3, k4, k5⟩ := bs.cells
  have H_bs := Lib.hid bs; clear bs
  go_wp2_with (fail)
  refine (Scale_any m1 s1 c1 _ H_hs1.out).mono ?_
  rintro e w5 ⟨rfl, f9⟩
  have bs := H_bs.out.fresh f9
  clear H_bs f9
  clear k0 k1 k2 k3 k4 k5
  obtain ⟨k0, k1, k2, k3, k4, k5⟩ := bs.cells
  have H_bs := Lib.hid bs; clear bs
  go_wp2_with (fail)
  refine (setFint_any (g + 4) _ 0 c2 _ (by have := H_hc2.out; omega) H_bs.out.y).mono ?_
  rintro e w6 ⟨rfl, hbs⟩
  obtain ⟨x6, bs⟩ := H_bs.out.setQ hbs
  clear H_bs hbs
  clear k0 k1 k2 k3 k4 k5
  obtain ⟨k0, k1, k2, k3, k4, k5⟩ := bs.cells
  have H_bs := Lib.hid bs; clear bs
  go_wp2_with (fail)
  refine (IsNeg_any m1 s1 c1 _).mono ?_
  rintro e w7 ⟨rfl, f9⟩
  have bs := H_bs.out.fresh f9
  clear H_bs f9
  clear k0 k1 k2 k3 k4 k5
  obtain ⟨k0, k1, k2, k3, k4, k5⟩ := bs.cells
  have H_bs := Lib.hid bs; clear bs
  go_wp2_with (fail)
  refine (Scale_any m2 s2 c2 _ H_hs2.out).mono ?_
  rintro e w8 ⟨rfl, f9⟩
  have bs := H_bs.out.fresh f9
  clear H_bs f9
  clear k0 k1 k2 k3 k4 k5
  obtain ⟨k0, k1, k2, k3, k4, k5⟩ := bs.cells
  have H_bs := Lib.hid bs; clear bs
  go_wp2_with (fail)
  refine (Scale_any m2 s2 c2 _ H_hs2.out).mono ?_
  rintro e w9 ⟨rfl, f9⟩
  have bs := H_bs.out.fresh f9
  clear H_bs f9
  clear k0 k1 k2 k3 k4 k5
  obtain ⟨k0, k1, k2, k3, k4, k5⟩ := bs.cells
  have H_bs := Lib.hid bs; clear bs
  go_wp2_with (fail)
  refine (H_hlsh.out (g + 4) _ _ (H_hG.out.fresh H_bs.out.f) (H_hP.out.fresh H_bs.out.f) H_bs.out.y).mono ?_
  rintro e w10 ⟨rfl, hbs⟩
  obtain ⟨x10, bs⟩ := H_bs.out.setQ hbs
  clear H_bs hbs
  clear k0 k1 k2 k3 k4 k5
  obtain ⟨k0, k1, k2, k3, k4, k5⟩ := bs.cells
  have H_bs := Lib.hid bs; clear bs
  go_wp2_with (fail)
  refine (IsNeg_any m2 s2 c2 _).mono ?_
  rintro e w11 ⟨rfl, f9⟩
  have bs := H_bs.out.fresh f9
  clear H_bs f9
  clear k0 k1 k2 k3 k4 k5
  obtain ⟨k0, k1, k2, k3, k4, k5⟩ := bs.cells
  have H_bs := Lib.hid bs; clear bs
  have hcmp := bcmp_any (g + 4) (g + 3) _ _ b c1 _ H_hbw.out H_hcw1.out (by omega) H_bs.out.y H_bs.out.z
  rw [H_t5.out] at hcmp
  have H_hcmp := Lib.hid hcmp; clear hcmp
  go_wp2_with (fail)
  refine (H_hcmp.out).mono ?_
  rintro e w12 ⟨rfl, qn, rfl⟩
  have bs := H_bs.out.fresh (fresh_drewN _ qn)
  clear H_bs
  generalize w11.drewN qn = w12 at *
  clear k0 k1 k2 k3 k4 k5
  obtain ⟨k0, k1, k2, k3, k4, k5⟩ := bs.cells
  have H_bs := Lib.hid bs; clear bs
  go_wp2_with (fail)
  refine (IsNeg_any m2 s2 c2 _).mono ?_
  rintro e w13 ⟨rfl, f9⟩
  have bs := H_bs.out.fresh f9
  clear H_bs f9
  clear k0 k1 k2 k3 k4 k5
  obtain ⟨k0, k1, k2, k3, k4, k5⟩ := bs.cells
  have H_bs := Lib.hid bs; clear bs
  have hsub := subAbs_any (g + 3) (g + 4) c1 b _ _ _ H_hcw1.out H_hbw.out (by omega) H_bs.out.z H_bs.out.y (.inr H_bs.out.od)
  rw [H_t6.out] at hsub
  have H_hsub := Lib.hid hsub; clear hsub
  go_wp2_with (fail)
  refine (H_hsub.out).mono ?_
  rintro e w14 ⟨rfl, hbs⟩
  obtain ⟨x14, bs⟩ := H_bs.out.setP hbs
  clear H_bs hbs
  clear k0 k1 k2 k3 k4 k5
  obtain ⟨k0, k1, k2, k3, k4, k5⟩ := bs.cells
  have H_bs := Lib.hid bs; clear bs
  go_wp2_with (fail)
  refine (H_hnb.out _ _ H_bs.out.f (fun k h => H_bs.out.ov k h) H_bs.out.z).mono ?_
  rintro e w15 ⟨ev, rfl, hev, k9⟩
  have r3 := row_keep H_bs.out.r3 k9 (fun hh => hh.elim (fun h => by omega) (fun h => by have := H_bs.out.ov _ h; omega))
  have fa : Fresh w w15 := H_bs.out.f.trans k9 (fun _ _ h => h) (fun k hk hh => by
    have := H_bs.out.hg
    rcases hh with rfl | hh
    · omega
    · have := H_bs.out.ov k hh; omega)
  have p0 := row_cell r3 0
  have p1 := row_cell r3 1
  have p2 := row_cell r3 2
  simp at p0 p1 p2
  have z0 : w15.frozen? ⟨g + 1 + 1, 0, none⟩ = false := frozen_of_row _ _ _ _ _ r3
  have z1 : w15.frozen? ⟨g + 1 + 1, 1, none⟩ = false := frozen_of_row _ _ _ _ _ r3
  have z2 : w15.frozen? ⟨g + 1 + 1, 2, none⟩ = false := frozen_of_row _ _ _ _ _ r3
  clear k9 k0 k1 k2 k3 k4 k5
  have H_r3 := Lib.hid r3; clear r3
  have H_fa := Lib.hid fa; clear fa
  have H_hev := Lib.hid hev; clear hev
  go_wp2_with (fail)
  refine leaves_cons (f := 102) (args := #[.pointer (some ⟨g + 4, 0, none⟩)]) (by simp) (by simp [go_sem]) ?_
  refine (putBint_idle _ _).mono ?_
  rintro e u' w'' ⟨rfl, rfl, rfl⟩
  refine leaves_cons (f := 102) (args := #[.pointer (some ⟨g + 3, 0, none⟩)]) (by first | (intro h; cases h; done) | simp [settle]) (by simp [go_sem]) ?_
  refine (putBint_idle _ _).mono ?_
  rintro e u2 wf ⟨rfl, rfl, rfl⟩
  refine ⟨_, results_cell_tmp_row rfl _ _ (g + 1 + 1) 50 #[.bool nz, .int .i8 sz, .int .u64 cz] (0, 0) _ rfl (row_set (row_set (row_set H_r3.out))) Tryz.underlying50 rfl (by kernel_rfl), ?_⟩
  exact ⟨ev, rfl, H_hev.out, Fresh.set3 H_fa.out (by have := H_hg.out; omega)⟩

set_option maxRecDepth 20000 in
set_option maxHeartbeats 4000000 in
theorem addBint_gt_more (m1 m2 : Bool) (c1 s1 c2 s2 : Nat) (w : World) (hG : Glob w) (hP : Pow10s w) (ms : Nat) (hs1 : s1 ≤ 19) (hs2 : s2 ≤ 19) (hc1 : c1 ≤ 9999999999999999999) (hc2 : c2 ≤ 9999999999999999999) (hsc : s2 < s1) (hsg : m1 ≠ m2) (hsum : ¬ c1 < c2 * 10 ^ (s1 - s2)) (nz : Bool) (sz cz : Nat) (Pv : Value → Prop)
    (hnb : ∀ V v, Fresh w V → (∀ k, v.ownBlock = some k → w.heap.size + 5 ≤ k) → BI V (w.heap.size + 3) v (adf (c1) (c2 * 10 ^ (s1 - s2))) → Calls Tryz.prog 108 #[.bool m1, .pointer (some ⟨w.heap.size + 3, 0, none⟩), .int .i64 (s1 : Nat), .int .i64 ms] V (NBOut V (w.heap.size + 3) v nz sz cz Pv)) :
    Calls Tryz.prog 86 #[gd m1 s1 c1, gd m2 s2 c2, .int .i64 ms] w (DOut w nz sz cz Pv) := by
  have hcw1 : c1 < wpow 39 := wpow_big (by omega)
  have hcw2 : c2 < wpow 39 := wpow_big (by omega)
  have t1 : decide ((s2 : Int) < (s1 : Int)) = true := by simp; omega
  have hbw : c2 * 10 ^ (s1 - s2) < wpow 39 := scaled_lt hc2 (by omega)
  obtain ⟨k, hk⟩ : ∃ k, k = s1 - s2 := ⟨_, rfl⟩
  have hkI : (s1 : Int) - (s2 : Int) = (k : Int) := by omega
  have hk19 : k ≤ 19 := by omega
  have hkw : IntKind.i64.wrap (k : Int) = (k : Int) := wrap_nat k (by omega)
  rw [← hk] at hbw hnb hsum
  have hlsh := fun g v W (hG : Glob W) (hP : Pow10s W) => lsh_self g v c2 k W hG hP hcw2 hk19
  obtain ⟨b, hb⟩ : ∃ b, b = c2 * 10 ^ k := ⟨_, rfl⟩
  rw [← hb] at hbw hnb hlsh hsum
  clear hb hk hk19
  have t4 : (m1 == m2) = false := by simpa using hsg
  have t5 : decide (0 < cmpN b c1) = false := cmpN_not hsum
  have t6 : (if b ≤ c1 then c1 - b else b - c1) = adf c1 b := by unfold adf; split <;> split <;> omega
  obtain ⟨cc, hcc⟩ : ∃ cc, cc = cmpN b c1 := ⟨_, rfl⟩
  rw [← hcc] at t5
  have H_hsg := Lib.hid hsg
  clear hsg
  generalize adf c1 b = q at *
  obtain ⟨g, hg⟩ : ∃ g, g = w.heap.size := ⟨_, rfl⟩
  have hsz0 : NG ≤ w.heap.size := hG.size
  have bx := boxes3 w #[.bool m1, .int .i8 s1, .int .u64 c1] #[.bool m2, .int .i8 s2, .int .u64 c2] #[.bool false, .int .i8 0, .int .u64 0] 50 50 50 g hg
  rw [← hg] at hnb
  have H_bx := Lib.hid bx; clear bx
  have H_hsz0 := Lib.hid hsz0; clear hsz0
  have H_hG := Lib.hid hG; clear hG
  have H_hP := Lib.hid hP; clear hP
  have H_hnb := Lib.hid hnb; clear hnb
  have H_hcw1 := Lib.hid hcw1; clear hcw1
  have H_hcw2 := Lib.hid hcw2; clear hcw2
  have H_hs1 := Lib.hid hs1; clear hs1
  have H_hs2 := Lib.hid hs2; clear hs2
  have H_hc1 := Lib.hid hc1; clear hc1
  have H_hc2 := Lib.hid hc2; clear hc2
  have H_hlsh := Lib.hid hlsh; clear hlsh
  have H_hbw := Lib.hid hbw; clear hbw
  have H_hsum := Lib.hid hsum; clear hsum
  have H_t6 := Lib.hid t6; clear t6
  have H_hcc := Lib.hid hcc; clear hcc
  go_enter_defers Tryz.func86, Tryz.ntmps86
  go_wp2_with (fail)
  generalize hw1 : ((w.alloc _).alloc _).alloc _ = w1
  rw [← hg]
  obtain ⟨r1, r2, r3, fa, _⟩ := H_bx.out w1 hw1
  have sz1 : w1.heap.size = g + 3 := by rw [← hw1, hg]; simp
  have hb1 := getBint_any w1 (by have := H_hsz0.out; omega)
  rw [sz1] at hb1
  have H_r1 := Lib.hid r1; clear r1
  have H_r2 := Lib.hid r2; clear r2
  have H_r3 := Lib.hid r3; clear r3
  have H_fa := Lib.hid fa; clear fa
  have H_hw1 := Lib.hid hw1; clear hw1
  have H_hg := Lib.hid hg; clear hg
  have H_hb1 := Lib.hid hb1; clear hb1
  have H_sz1 := Lib.hid sz1; clear sz1
  go_wp2_with (fail)
  refine H_hb1.out.mono ?_
  rintro e w2 ⟨rfl, z2, f2, sz2⟩
  have sz2' : w2.heap.size = g + 4 := by omega
  have hb2 := getBint_any w2 (by have := H_hsz0.out; have := H_hg.out; omega)
  rw [sz2'] at hb2
  have H_z2 := Lib.hid z2; clear z2
  have H_f2 := Lib.hid f2; clear f2
  have H_sz2 := Lib.hid sz2; clear sz2
  have H_sz2' := Lib.hid sz2'; clear sz2'
  have H_hb2 := Lib.hid hb2; clear hb2
  go_wp2_with (fail)
  refine H_hb2.out.mono ?_
  rintro e w3 ⟨rfl, y3, f3, sz3⟩
  have ff := fresh_trans H_f2.out f3
  have bs : BS w w3 g m1 m2 c1 s1 c2 s2 (.slice none 0 0) (.slice none 0 0) 0 0 := ⟨row_fresh H_r1.out ff, row_fresh H_r2.out ff, row_fresh H_r3.out ff, H_z2.out.fresh f3, y3, fun k h => by simp [Value.ownBlock] at h, fun k h => by simp [Value.ownBlock] at h, fun k h => by simp [Value.ownBlock] at h, fresh_trans H_fa.out ff, H_hg.out, by omega⟩
  clear H_r1 H_r2 H_r3 H_fa H_z2 H_f2 y3 f3 sz3 ff
  obtain ⟨k0, k1, k2, k3, k4, k5⟩ := bs.cells
  have H_bs := Lib.hid bs; clear bs
  go_wp2_with (fail)
  refine (setFint_any (g + 3) _ 0 c1 _ (by have := H_hc1.out; omega) H_bs.out.z).mono ?_
  rintro e w4 ⟨rfl, hbs⟩
  obtain ⟨x4, bs⟩ := H_bs.out.setP hbs
  clear H_bs hbs
  clear k0 k1 k2 k3 k4 k5
  obtain ⟨k0, k1, k2, k3, k4, k5⟩ := bs.cells
  have H_bs := Lib.hid bs; clear bs
  go_wp2_with (fail)
  refine (Scale_any m1 s1 c1 _ H_hs1.out).mono ?_
  rintro e w5 ⟨rfl, f9⟩
  have bs := H_bs.out.fresh f9
  clear H_bs f9
  clear k0 k1 k2 k3 k4 k5
  obtain ⟨k0, k1, k2, k3, k4, k5⟩ := bs.cells
  have H_bs := Lib.hid bs; clear bs
  go_wp2_with (fail)
  refine (setFint_any (g + 4) _ 0 c2 _ (by have := H_hc2.out; omega) H_bs.out.y).mono ?_
  rintro e w6 ⟨rfl, hbs⟩
  obtain ⟨x6, bs⟩ := H_bs.out.setQ hbs
  clear H_bs hbs
  clear k0 k1 k2 k3 k4 k5
  obtain ⟨k0, k1, k2, k3, k4, k5⟩ := bs.cells
  have H_bs := Lib.hid bs; clear bs
  go_wp2_with (fail)
  refine (IsNeg_any m1 s1 c1 _).mono ?_
  rintro e w7 ⟨rfl, f9⟩
  have bs := H_bs.out.fresh f9
  clear H_bs f9
  clear k0 k1 k2 k3 k4 k5
  obtain ⟨k0, k1, k2, k3, k4, k5⟩ := bs.cells
  have H_bs := Lib.hid bs; clear bs
  go_wp2_with (fail)
  refine (Scale_any m2 s2 c2 _ H_hs2.out).mono ?_
  rintro e w8 ⟨rfl, f9⟩
  have bs := H_bs.out.fresh f9
  clear H_bs f9
  clear k0 k1 k2 k3 k4 k5
  obtain ⟨k0, k1, k2, k3, k4, k5⟩ := bs.cells
  have H_bs := Lib.hid bs; clear bs
  go_wp2_with (fail)
  refine (Scale_any m2 s2 c2 _ H_hs2.out).mono ?_
  rintro e w9 ⟨rfl, f9⟩
  have bs := H_bs.out.fresh f9
  clear H_bs f9
  clear k0 k1 k2 k3 k4 k5
  obtain ⟨k0, k1, k2, k3, k4, k5⟩ := bs.cells
  have H_bs := Lib.hid bs; clear bs
  go_wp2_with (fail)
  refine (H_hlsh.out (g + 4) _ _ (H_hG.out.fresh H_bs.out.f) (H_hP.out.fresh H_bs.out.f) H_bs.out.y).mono ?_
  rintro e w10 ⟨rfl, hbs⟩
  obtain ⟨x10, bs⟩ := H_bs.out.setQ hbs
  clear H_bs hbs
  clear k0 k1 k2 k3 k4 k5
  obtain ⟨k0, k1, k2, k3, k4, k5⟩ := bs.cells
  have H_bs := Lib.hid bs; clear bs
  go_wp2_with (fail)
  refine (IsNeg_any m2 s2 c2 _).mono ?_
  rintro e w11 ⟨rfl, f9⟩
  have bs := H_bs.out.fresh f9
  clear H_bs f9
  clear k0 k1 k2 k3 k4 k5
  obtain ⟨k0, k1, k2, k3, k4, k5⟩ := bs.cells
  have H_bs := Lib.hid bs; clear bs
  have hcmp := bcmp_any (g + 4) (g + 3) _ _ b c1 _ H_hbw.out H_hcw1.out (by omega) H_bs.out.y H_bs.out.z
  rw [← H_hcc.out] at hcmp
  have H_hcmp := Lib.hid hcmp; clear hcmp
  go_wp2_with (fail)
  refine (H_hcmp.out).mono ?_
  rintro e w12 ⟨rfl, qn, rfl⟩
  have bs := H_bs.out.fresh (fresh_drewN _ qn)
  clear H_bs
  generalize w11.drewN qn = w12 at *
  clear k0 k1 k2 k3 k4 k5
  obtain ⟨k0, k1, k2, k3, k4, k5⟩ := bs.cells
  have H_bs := Lib.hid bs; clear bs
  have hsub := subAbs_any (g + 3) (g + 4) c1 b _ _ _ H_hcw1.out H_hbw.out (by omega) H_bs.out.z H_bs.out.y (.inr H_bs.out.od)
  rw [H_t6.out] at hsub
  have H_hsub := Lib.hid hsub; clear hsub
  go_wp2_with (fail)
  refine (H_hsub.out).mono ?_
  rintro e w13 ⟨rfl, hbs⟩
  obtain ⟨x13, bs⟩ := H_bs.out.setP hbs
  clear H_bs hbs
  clear k0 k1 k2 k3 k4 k5
  obtain ⟨k0, k1, k2, k3, k4, k5⟩ := bs.cells
  have H_bs := Lib.hid bs; clear bs
  go_wp2_with (fail)
  refine (H_hnb.out _ _ H_bs.out.f (fun k h => H_bs.out.ov k h) H_bs.out.z).mono ?_
  rintro e w14 ⟨ev, rfl, hev, k9⟩
  have r3 := row_keep H_bs.out.r3 k9 (fun hh => hh.elim (fun h => by omega) (fun h => by have := H_bs.out.ov _ h; omega))
  have fa : Fresh w w14 := H_bs.out.f.trans k9 (fun _ _ h => h) (fun k hk hh => by
    have := H_bs.out.hg
    rcases hh with rfl | hh
    · omega
    · have := H_bs.out.ov k hh; omega)
  have p0 := row_cell r3 0
  have p1 := row_cell r3 1
  have p2 := row_cell r3 2
  simp at p0 p1 p2
  have z0 : w14.frozen? ⟨g + 1 + 1, 0, none⟩ = false := frozen_of_row _ _ _ _ _ r3
  have z1 : w14.frozen? ⟨g + 1 + 1, 1, none⟩ = false := frozen_of_row _ _ _ _ _ r3
  have z2 : w14.frozen? ⟨g + 1 + 1, 2, none⟩ = false := frozen_of_row _ _ _ _ _ r3
  clear k9 k0 k1 k2 k3 k4 k5
  have H_r3 := Lib.hid r3; clear r3
  have H_fa := Lib.hid fa; clear fa
  have H_hev := Lib.hid hev; clear hev
  go_wp2_with (fail)
  refine leaves_cons (f := 102) (args := #[.pointer (some ⟨g + 4, 0, none⟩)]) (by simp) (by simp [go_sem]) ?_
  refine (putBint_idle _ _).mono ?_
  rintro e u' w'' ⟨rfl, rfl, rfl⟩
  refine leaves_cons (f := 102) (args := #[.pointer (some ⟨g + 3, 0, none⟩)]) (by first | (intro h; cases h; done) | simp [settle]) (by simp [go_sem]) ?_
  refine (putBint_idle _ _).mono ?_
  rintro e u2 wf ⟨rfl, rfl, rfl⟩
  refine ⟨_, results_cell_tmp_row rfl _ _ (g + 1 + 1) 50 #[.bool nz, .int .i8 sz, .int .u64 cz] (0, 0) _ rfl (row_set (row_set (row_set H_r3.out))) Tryz.underlying50 rfl (by kernel_rfl), ?_⟩
  exact ⟨ev, rfl, H_hev.out, Fresh.set3 H_fa.out (by have := H_hg.out; omega)⟩

set_option maxRecDepth 20000 in
set_option maxHeartbeats 4000000 in
theorem addBint_eq_same (m1 m2 : Bool) (c1 s1 c2 s2 : Nat) (w : World) (hG : Glob w) (hP : Pow10s w) (ms : Nat) (hs1 : s1 ≤ 19) (hs2 : s2 ≤ 19) (hc1 : c1 ≤ 9999999999999999999) (hc2 : c2 ≤ 9999999999999999999) (hsc : s1 = s2) (hsg : m1 = m2) (nz : Bool) (sz cz : Nat) (Pv : Value → Prop)
    (hnb : ∀ V v, Fresh w V → (∀ k, v.ownBlock = some k → w.heap.size + 5 ≤ k) → BI V (w.heap.size + 3) v (c1 + c2) → Calls Tryz.prog 108 #[.bool m1, .pointer (some ⟨w.heap.size + 3, 0, none⟩), .int .i64 (s1 : Nat), .int .i64 ms] V (NBOut V (w.heap.size + 3) v nz sz cz Pv)) :
    Calls Tryz.prog 86 #[gd m1 s1 c1, gd m2 s2 c2, .int .i64 ms] w (DOut w nz sz cz Pv) := by
  have hcw1 : c1 < wpow 39 := wpow_big (by omega)
  have hcw2 : c2 < wpow 39 := wpow_big (by omega)
  subst hsc
  have t1 : decide ((s1 : Int) < (s1 : Int)) = false := by simp
  subst hsg
  obtain ⟨g, hg⟩ : ∃ g, g = w.heap.size := ⟨_, rfl⟩
  have hsz0 : NG ≤ w.heap.size := hG.size
  have bx := boxes3 w #[.bool m1, .int .i8 s1, .int .u64 c1] #[.bool m1, .int .i8 s1, .int .u64 c2] #[.bool false, .int .i8 0, .int .u64 0] 50 50 50 g hg
  rw [← hg] at hnb
  have H_bx := Lib.hid bx; clear bx
  have H_hsz0 := Lib.hid hsz0; clear hsz0
  have H_hG := Lib.hid hG; clear hG
  have H_hP := Lib.hid hP; clear hP
  have H_hnb := Lib.hid hnb; clear hnb
  have H_hcw1 := Lib.hid hcw1; clear hcw1
  have H_hcw2 := Lib.hid hcw2; clear hcw2
  have H_hs1 := Lib.hid hs1; clear hs1
  have H_hs2 := Lib.hid hs2; clear hs2
  have H_hc1 := Lib.hid hc1; clear hc1
  have H_hc2 := Lib.hid hc2; clear hc2
  go_enter_defers Tryz.func86, Tryz.ntmps86
  go_wp2_with (fail)
  generalize hw1 : ((w.alloc _).alloc _).alloc _ = w1
  rw [← hg]
  obtain ⟨r1, r2, r3, fa, _⟩ := H_bx.out w1 hw1
  have sz1 : w1.heap.size = g + 3 := by rw [← hw1, hg]; simp
  have hb1 := getBint_any w1 (by have := H_hsz0.out; omega)
  rw [sz1] at hb1
  have H_r1 := Lib.hid r1; clear r1
  have H_r2 := Lib.hid r2; clear r2
  have H_r3 := Lib.hid r3; clear r3
  have H_fa := Lib.hid fa; clear fa
  have H_hw1 := Lib.hid hw1; clear hw1
  have H_hg := Lib.hid hg; clear hg
  have H_hb1 := Lib.hid hb1; clear hb1
  have H_sz1 := Lib.hid sz1; clear sz1
  go_wp2_with (fail)
  refine H_hb1.out.mono ?_
  rintro e w2 ⟨rfl, z2, f2, sz2⟩
  have sz2' : w2.heap.size = g + 4 := by omega
  have hb2 := getBint_any w2 (by have := H_hsz0.out; have := H_hg.out; omega)
  rw [sz2'] at hb2
  have H_z2 := Lib.hid z2; clear z2
  have H_f2 := Lib.hid f2; clear f2
  have H_sz2 := Lib.hid sz2; clear sz2
  have H_sz2' := Lib.hid sz2'; clear sz2'
  have H_hb2 := Lib.hid hb2; clear hb2
  go_wp2_with (fail)
  refine H_hb2.out.mono ?_
  rintro e w3 ⟨rfl, y3, f3, sz3⟩
  have ff := fresh_trans H_f2.out f3
  have bs : BS w w3 g m1 m1 c1 s1 c2 s1 (.slice none 0 0) (.slice none 0 0) 0 0 := ⟨row_fresh H_r1.out ff, row_fresh H_r2.out ff, row_fresh H_r3.out ff, H_z2.out.fresh f3, y3, fun k h => by simp [Value.ownBlock] at h, fun k h => by simp [Value.ownBlock] at h, fun k h => by simp [Value.ownBlock] at h, fresh_trans H_fa.out ff, H_hg.out, by omega⟩
  clear H_r1 H_r2 H_r3 H_fa H_z2 H_f2 y3 f3 sz3 ff
  obtain ⟨k0, k1, k2, k3, k4, k5⟩ := bs.cells
  have H_bs := Lib.hid bs; clear bs
  go_wp2_with (fail)
  refine (setFint_any (g + 3) _ 0 c1 _ (by have := H_hc1.out; omega) H_bs.out.z).mono ?_
  rintro e w4 ⟨rfl, hbs⟩
  obtain ⟨x4, bs⟩ := H_bs.out.setP hbs
  clear H_bs hbs
  clear k0 k1 k2 k3 k4 k5
  obtain ⟨k0, k1, k2, k3, k4, k5⟩ := bs.cells
  have H_bs := Lib.hid bs; clear bs
  go_wp2_with (fail)
  refine (Scale_any m1 s1 c1 _ H_hs1.out).mono ?_
  rintro e w5 ⟨rfl, f9⟩
  have bs := H_bs.out.fresh f9
  clear H_bs f9
  clear k0 k1 k2 k3 k4 k5
  obtain ⟨k0, k1, k2, k3, k4, k5⟩ := bs.cells
  have H_bs := Lib.hid bs; clear bs
  go_wp2_with (fail)
  refine (setFint_any (g + 4) _ 0 c2 _ (by have := H_hc2.out; omega) H_bs.out.y).mono ?_
  rintro e w6 ⟨rfl, hbs⟩
  obtain ⟨x6, bs⟩ := H_bs.out.setQ hbs
  clear H_bs hbs
  clear k0 k1 k2 k3 k4 k5
  obtain ⟨k0, k1, k2, k3, k4, k5⟩ := bs.cells
  have H_bs := Lib.hid bs; clear bs
  go_wp2_with (fail)
  refine (IsNeg_any m1 s1 c1 _).mono ?_
  rintro e w7 ⟨rfl, f9⟩
  have bs := H_bs.out.fresh f9
  clear H_bs f9
  clear k0 k1 k2 k3 k4 k5
  obtain ⟨k0, k1, k2, k3, k4, k5⟩ := bs.cells
  have H_bs := Lib.hid bs; clear bs
  go_wp2_with (fail)
  refine (Scale_any m1 s1 c2 _ H_hs1.out).mono ?_
  rintro e w8 ⟨rfl, f9⟩
  have bs := H_bs.out.fresh f9
  clear H_bs f9
  clear k0 k1 k2 k3 k4 k5
  obtain ⟨k0, k1, k2, k3, k4, k5⟩ := bs.cells
  have H_bs := Lib.hid bs; clear bs
  go_wp2_with (fail)
  refine (Scale_any m1 s1 c2 _ H_hs1.out).mono ?_
  rintro e w9 ⟨rfl, f9⟩
  have bs := H_bs.out.fresh f9
  clear H_bs f9
  clear k0 k1 k2 k3 k4 k5
  obtain ⟨k0, k1, k2, k3, k4, k5⟩ := bs.cells
  have H_bs := Lib.hid bs; clear bs
  go_wp2_with (fail)
  refine (IsNeg_any m1 s1 c2 _).mono ?_
  rintro e w10 ⟨rfl, f9⟩
  have bs := H_bs.out.fresh f9
  clear H_bs f9
  clear k0 k1 k2 k3 k4 k5
  obtain ⟨k0, k1, k2, k3, k4, k5⟩ := bs.cells
  have H_bs := Lib.hid bs; clear bs
  go_wp2_with (fail)
  refine (badd_any (g + 3) (g + 3) (g + 4) _ _ _ c1 c1 c2 _ H_hcw1.out H_hcw2.out H_bs.out.z H_bs.out.z H_bs.out.y (.inl rfl) (.inr H_bs.out.od)).mono ?_
  rintro e w11 ⟨rfl, hbs⟩
  obtain ⟨x11, bs⟩ := H_bs.out.setP hbs
  clear H_bs hbs
  clear k0 k1 k2 k3 k4 k5
  obtain ⟨k0, k1, k2, k3, k4, k5⟩ := bs.cells
  have H_bs := Lib.hid bs; clear bs
  go_wp2_with (fail)
  refine (H_hnb.out _ _ H_bs.out.f (fun k h => H_bs.out.ov k h) H_bs.out.z).mono ?_
  rintro e w12 ⟨ev, rfl, hev, k9⟩
  have r3 := row_keep H_bs.out.r3 k9 (fun hh => hh.elim (fun h => by omega) (fun h => by have := H_bs.out.ov _ h; omega))
  have fa : Fresh w w12 := H_bs.out.f.trans k9 (fun _ _ h => h) (fun k hk hh => by
    have := H_bs.out.hg
    rcases hh with rfl | hh
    · omega
    · have := H_bs.out.ov k hh; omega)
  have p0 := row_cell r3 0
  have p1 := row_cell r3 1
  have p2 := row_cell r3 2
  simp at p0 p1 p2
  have z0 : w12.frozen? ⟨g + 1 + 1, 0, none⟩ = false := frozen_of_row _ _ _ _ _ r3
  have z1 : w12.frozen? ⟨g + 1 + 1, 1, none⟩ = false := frozen_of_row _ _ _ _ _ r3
  have z2 : w12.frozen? ⟨g + 1 + 1, 2, none⟩ = false := frozen_of_row _ _ _ _ _ r3
  clear k9 k0 k1 k2 k3 k4 k5
  have H_r3 := Lib.hid r3; clear r3
  have H_fa := Lib.hid fa; clear fa
  have H_hev := Lib.hid hev; clear hev
  go_wp2_with (fail)
  refine leaves_cons (f := 102) (args := #[.pointer (some ⟨g + 4, 0, none⟩)]) (by simp) (by simp [go_sem]) ?_
  refine (putBint_idle _ _).mono ?_
  rintro e u' w'' ⟨rfl, rfl, rfl⟩
  refine leaves_cons (f := 102) (args := #[.pointer (some ⟨g + 3, 0, none⟩)]) (by first | (intro h; cases h; done) | simp [settle]) (by simp [go_sem]) ?_
  refine (putBint_idle _ _).mono ?_
  rintro e u2 wf ⟨rfl, rfl, rfl⟩
  refine ⟨_, results_cell_tmp_row rfl _ _ (g + 1 + 1) 50 #[.bool nz, .int .i8 sz, .int .u64 cz] (0, 0) _ rfl (row_set (row_set (row_set H_r3.out))) Tryz.underlying50 rfl (by kernel_rfl), ?_⟩
  exact ⟨ev, rfl, H_hev.out, Fresh.set3 H_fa.out (by have := H_hg.out; omega)⟩

set_option maxRecDepth 20000 in
set_option maxHeartbeats 4000000 in
theorem addBint_eq_less (m1 m2 : Bool) (c1 s1 c2 s2 : Nat) (w : World) (hG : Glob w) (hP : Pow10s w) (ms : Nat) (hs1 : s1 ≤ 19) (hs2 : s2 ≤ 19) (hc1 : c1 ≤ 9999999999999999999) (hc2 : c2 ≤ 9999999999999999999) (hsc : s1 = s2) (hsg : m1 ≠ m2) (hsum : c1 < c2) (nz : Bool) (sz cz : Nat) (Pv : Value → Prop)
    (hnb : ∀ V v, Fresh w V → (∀ k, v.ownBlock = some k → w.heap.size + 5 ≤ k) → BI V (w.heap.size + 3) v (adf (c1) (c2)) → Calls Tryz.prog 108 #[.bool m2, .pointer (some ⟨w.heap.size + 3, 0, none⟩), .int .i64 (s1 : Nat), .int .i64 ms] V (NBOut V (w.heap.size + 3) v nz sz cz Pv)) :
    Calls Tryz.prog 86 #[gd m1 s1 c1, gd m2 s2 c2, .int .i64 ms] w (DOut w nz sz cz Pv) := by
  have hcw1 : c1 < wpow 39 := wpow_big (by omega)
  have hcw2 : c2 < wpow 39 := wpow_big (by omega)
  subst hsc
  have t1 : decide ((s1 : Int) < (s1 : Int)) = false := by simp
  have t4 : (m1 == m2) = false := by simpa using hsg
  have t5 : cmpN (c2) (c1) = 1 := by unfold cmpN; rw [if_neg (by omega), if_pos hsum]
  have t6 : (if c2 ≤ c1 then c1 - c2 else c2 - c1) = adf c1 c2 := by unfold adf; split <;> split <;> omega
  have H_hsg := Lib.hid hsg
  clear hsg
  generalize adf c1 c2 = q at *
  obtain ⟨g, hg⟩ : ∃ g, g = w.heap.size := ⟨_, rfl⟩
  have hsz0 : NG ≤ w.heap.size := hG.size
  have bx := boxes3 w #[.bool m1, .int .i8 s1, .int .u64 c1] #[.bool m2, .int .i8 s1, .int .u64 c2] #[.bool false, .int .i8 0, .int .u64 0] 50 50 50 g hg
  rw [← hg] at hnb
  have H_bx := Lib.hid bx; clear bx
  have H_hsz0 := Lib.hid hsz0; clear hsz0
  have H_hG := Lib.hid hG; clear hG
  have H_hP := Lib.hid hP; clear hP
  have H_hnb := Lib.hid hnb; clear hnb
  have H_hcw1 := Lib.hid hcw1; clear hcw1
  have H_hcw2 := Lib.hid hcw2; clear hcw2
  have H_hs1 := Lib.hid hs1; clear hs1
  have H_hs2 := Lib.hid hs2; clear hs2
  have H_hc1 := Lib.hid hc1; clear hc1
  have H_hc2 := Lib.hid hc2; clear hc2
  have H_hsum := Lib.hid hsum; clear hsum
  have H_t6 := Lib.hid t6; clear t6
  have H_t5 := Lib.hid t5; clear t5
  go_enter_defers Tryz.func86, Tryz.ntmps86
  go_wp2_with (fail)
  generalize hw1 : ((w.alloc _).alloc _).alloc _ = w1
  rw [← hg]
  obtain ⟨r1, r2, r3, fa, _⟩ := H_bx.out w1 hw1
  have sz1 : w1.heap.size = g + 3 := by rw [← hw1, hg]; simp
  have hb1 := getBint_any w1 (by have := H_hsz0.out; omega)
  rw [sz1] at hb1
  have H_r1 := Lib.hid r1; clear r1
  have H_r2 := Lib.hid r2; clear r2
  have H_r3 := Lib.hid r3; clear r3
  have H_fa := Lib.hid fa; clear fa
  have H_hw1 := Lib.hid hw1; clear hw1
  have H_hg := Lib.hid hg; clear hg
  have H_hb1 := Lib.hid hb1; clear hb1
  have H_sz1 := Lib.hid sz1; clear sz1
  go_wp2_with (fail)
  refine H_hb1.out.mono ?_
  rintro e w2 ⟨rfl, z2, f2, sz2⟩
  have sz2' : w2.heap.size = g + 4 := by omega
  have hb2 := getBint_any w2 (by have := H_hsz0.out; have := H_hg.out; omega)
  rw [sz2'] at hb2
  have H_z2 := Lib.hid z2; clear z2
  have H_f2 := Lib.hid f2; clear f2
  have H_sz2 := Lib.hid sz2; clear sz2
  have H_sz2' := Lib.hid sz2'; clear sz2'
  have H_hb2 := Lib.hid hb2; clear hb2
  go_wp2_with (fail)
  refine H_hb2.out.mono ?_
  rintro e w3 ⟨rfl, y3, f3, sz3⟩
  have ff := fresh_trans H_f2.out f3
  have bs : BS w w3 g m1 m2 c1 s1 c2 s1 (.slice none 0 0) (.slice none 0 0) 0 0 := ⟨row_fresh H_r1.out ff, row_fresh H_r2.out ff, row_fresh H_r3.out ff, H_z2.out.fresh f3, y3, fun k h => by simp [Value.ownBlock] at h, fun k h => by simp [Value.ownBlock] at h, fun k h => by simp [Value.ownBlock] at h, fresh_trans H_fa.out ff, H_hg.out, by omega⟩
  clear H_r1 H_r2 H_r3 H_fa H_z2 H_f2 y3 f3 sz3 ff
  obtain ⟨k0, k1, k2, k3, k4, k5⟩ := bs.cells
  have H_bs := Lib.hid bs; clear bs
  go_wp2_with (fail)
  refine (setFint_any (g + 3) _ 0 c1 _ (by have := H_hc1.out; omega) H_bs.out.z).mono ?_
  rintro e w4 ⟨rfl, hbs⟩
  obtain ⟨x4, bs⟩ := H_bs.out.setP hbs
  clear H_bs hbs
  clear k0 k1 k2 k3 k4 k5
  obtain ⟨k0, k1, k2, k3, k4, k5⟩ := bs.cells
  have H_bs := Lib.hid bs; clear bs
  go_wp2_with (fail)
  refine (Scale_any m1 s1 c1 _ H_hs1.out).mono ?_
  rintro e w5 ⟨rfl, f9⟩
  have bs := H_bs.out.fresh f9
  clear H_bs f9
  clear k0 k1 k2 k3 k4 k5
  obtain ⟨k0, k1, k2, k3, k4, k5⟩ := bs.cells
  have H_bs := Lib.hid bs; clear bs
  go_wp2_with (fail)
  refine (setFint_any (g + 4) _ 0 c2 _ (by have := H_hc2.out; omega) H_bs.out.y).mono ?_
  rintro e w6 ⟨rfl, hbs⟩
  obtain ⟨x6, bs⟩ := H_bs.out.setQ hbs
  clear H_bs hbs
  clear k0 k1 k2 k3 k4 k5
  obtain ⟨k0, k1, k2, k3, k4, k5⟩ := bs.cells
  have H_bs := Lib.hid bs; clear bs
  go_wp2_with (fail)
  refine (IsNeg_any m1 s1 c1 _).mono ?_
  rintro e w7 ⟨rfl, f9⟩
  have bs := H_bs.out.fresh f9
  clear H_bs f9
  clear k0 k1 k2 k3 k4 k5
  obtain ⟨k0, k1, k2, k3, k4, k5⟩ := bs.cells
  have H_bs := Lib.hid bs; clear bs
  go_wp2_with (fail)
  refine (Scale_any m2 s1 c2 _ H_hs1.out).mono ?_
  rintro e w8 ⟨rfl, f9⟩
  have bs := H_bs.out.fresh f9
  clear H_bs f9
  clear k0 k1 k2 k3 k4 k5
  obtain ⟨k0, k1, k2, k3, k4, k5⟩ := bs.cells
  have H_bs := Lib.hid bs; clear bs
  go_wp2_with (fail)
  refine (Scale_any m2 s1 c2 _ H_hs1.out).mono ?_
  rintro e w9 ⟨rfl, f9⟩
  have bs := H_bs.out.fresh f9
  clear H_bs f9
  clear k0 k1 k2 k3 k4 k5
  obtain ⟨k0, k1, k2, k3, k4, k5⟩ := bs.cells
  have H_bs := Lib.hid bs; clear bs
  go_wp2_with (fail)
  refine (IsNeg_any m2 s1 c2 _).mono ?_
  rintro e w10 ⟨rfl, f9⟩
  have bs := H_bs.out.fresh f9
  clear H_bs f9
  clear k0 k1 k2 k3 k4 k5
  obtain ⟨k0, k1, k2, k3, k4, k5⟩ := bs.cells
  have H_bs := Lib.hid bs; clear bs
  have hcmp := bcmp_any (g + 4) (g + 3) _ _ c2 c1 _ H_hcw2.out H_hcw1.out (by omega) H_bs.out.y H_bs.out.z
  rw [H_t5.out] at hcmp
  have H_hcmp := Lib.hid hcmp; clear hcmp
  go_wp2_with (fail)
  refine (H_hcmp.out).mono ?_
  rintro e w11 ⟨rfl, qn, rfl⟩
  have bs := H_bs.out.fresh (fresh_drewN _ qn)
  clear H_bs
  generalize w10.drewN qn = w11 at *
  clear k0 k1 k2 k3 k4 k5
  obtain ⟨k0, k1, k2, k3, k4, k5⟩ := bs.cells
  have H_bs := Lib.hid bs; clear bs
  go_wp2_with (fail)
  refine (IsNeg_any m2 s1 c2 _).mono ?_
  rintro e w12 ⟨rfl, f9⟩
  have bs := H_bs.out.fresh f9
  clear H_bs f9
  clear k0 k1 k2 k3 k4 k5
  obtain ⟨k0, k1, k2, k3, k4, k5⟩ := bs.cells
  have H_bs := Lib.hid bs; clear bs
  have hsub := subAbs_any (g + 3) (g + 4) c1 c2 _ _ _ H_hcw1.out H_hcw2.out (by omega) H_bs.out.z H_bs.out.y (.inr H_bs.out.od)
  rw [H_t6.out] at hsub
  have H_hsub := Lib.hid hsub; clear hsub
  go_wp2_with (fail)
  refine (H_hsub.out).mono ?_
  rintro e w13 ⟨rfl, hbs⟩
  obtain ⟨x13, bs⟩ := H_bs.out.setP hbs
  clear H_bs hbs
  clear k0 k1 k2 k3 k4 k5
  obtain ⟨k0, k1, k2, k3, k4, k5⟩ := bs.cells
  have H_bs := Lib.hid bs; clear bs
  go_wp2_with (fail)
  refine (H_hnb.out _ _ H_bs.out.f (fun k h => H_bs.out.ov k h) H_bs.out.z).mono ?_
  rintro e w14 ⟨ev, rfl, hev, k9⟩
  have r3 := row_keep H_bs.out.r3 k9 (fun hh => hh.elim (fun h => by omega) (fun h => by have := H_bs.out.ov _ h; omega))
  have fa : Fresh w w14 := H_bs.out.f.trans k9 (fun _ _ h => h) (fun k hk hh => by
    have := H_bs.out.hg
    rcases hh with rfl | hh
    · omega
    · have := H_bs.out.ov k hh; omega)
  have p0 := row_cell r3 0
  have p1 := row_cell r3 1
  have p2 := row_cell r3 2
  simp at p0 p1 p2
  have z0 : w14.frozen? ⟨g + 1 + 1, 0, none⟩ = false := frozen_of_row _ _ _ _ _ r3
  have z1 : w14.frozen? ⟨g + 1 + 1, 1, none⟩ = false := frozen_of_row _ _ _ _ _ r3
  have z2 : w14.frozen? ⟨g + 1 + 1, 2, none⟩ = false := frozen_of_row _ _ _ _ _ r3
  clear k9 k0 k1 k2 k3 k4 k5
  have H_r3 := Lib.hid r3; clear r3
  have H_fa := Lib.hid fa; clear fa
  have H_hev := Lib.hid hev; clear hev
  go_wp2_with (fail)
  refine leaves_cons (f := 102) (args := #[.pointer (some ⟨g + 4, 0, none⟩)]) (by simp) (by simp [go_sem]) ?_
  refine (putBint_idle _ _).mono ?_
  rintro e u' w'' ⟨rfl, rfl, rfl⟩
  refine leaves_cons (f := 102) (args := #[.pointer (some ⟨g + 3, 0, none⟩)]) (by first | (intro h; cases h; done) | simp [settle]) (by simp [go_sem]) ?_
  refine (putBint_idle _ _).mono ?_
  rintro e u2 wf ⟨rfl, rfl, rfl⟩
  refine ⟨_, results_cell_tmp_row rfl _ _ (g + 1 + 1) 50 #[.bool nz, .int .i8 sz, .int .u64 cz] (0, 0) _ rfl (row_set (row_set (row_set H_r3.out))) Tryz.underlying50 rfl (by kernel_rfl), ?_⟩
  exact ⟨ev, rfl, H_hev.out, Fresh.set3 H_fa.out (by have := H_hg.out; omega)⟩

set_option maxRecDepth 20000 in
set_option maxHeartbeats 4000000 in
theorem addBint_eq_more (m1 m2 : Bool) (c1 s1 c2 s2 : Nat) (w : World) (hG : Glob w) (hP : Pow10s w) (ms : Nat) (hs1 : s1 ≤ 19) (hs2 : s2 ≤ 19) (hc1 : c1 ≤ 9999999999999999999) (hc2 : c2 ≤ 9999999999999999999) (hsc : s1 = s2) (hsg : m1 ≠ m2) (hsum : ¬ c1 < c2) (nz : Bool) (sz cz : Nat) (Pv : Value → Prop)
    (hnb : ∀ V v, Fresh w V → (∀ k, v.ownBlock = some k → w.heap.size + 5 ≤ k) → BI V (w.heap.size + 3) v (adf (c1) (c2)) → Calls Tryz.prog 108 #[.bool m1, .pointer (some ⟨w.heap.size + 3, 0, none⟩), .int .i64 (s1 : Nat), .int .i64 ms] V (NBOut V (w.heap.size + 3) v nz sz cz Pv)) :
    Calls Tryz.prog 86 #[gd m1 s1 c1, gd m2 s2 c2, .int .i64 ms] w (DOut w nz sz cz Pv) := by
  have hcw1 : c1 < wpow 39 := wpow_big (by omega)
  have hcw2 : c2 < wpow 39 := wpow_big (by omega)
  subst hsc
  have t1 : decide ((s1 : Int) < (s1 : Int)) = false := by simp
  have t4 : (m1 == m2) = false := by simpa using hsg
  have t5 : decide (0 < cmpN c2 c1) = false := cmpN_not hsum
  have t6 : (if c2 ≤ c1 then c1 - c2 else c2 - c1) = adf c1 c2 := by unfold adf; split <;> split <;> omega
  obtain ⟨cc, hcc⟩ : ∃ cc, cc = cmpN c2 c1 := ⟨_, rfl⟩
  rw [← hcc] at t5
  have H_hsg := Lib.hid hsg
  clear hsg
  generalize adf c1 c2 = q at *
  obtain ⟨g, hg⟩ : ∃ g, g = w.heap.size := ⟨_, rfl⟩
  have hsz0 : NG ≤ w.heap.size := hG.size
  have bx := boxes3 w #[.bool m1, .int .i8 s1, .int .u64 c1] #[.bool m2, .int .i8 s1, .int .u64 c2] #[.bool false, .int .i8 0, .int .u64 0] 50 50 50 g hg
  rw [← hg] at hnb
  have H_bx := Lib.hid bx; clear bx
  have H_hsz0 := Lib.hid hsz0; clear hsz0
  have H_hG := Lib.hid hG; clear hG
  have H_hP := Lib.hid hP; clear hP
  have H_hnb := Lib.hid hnb; clear hnb
  have H_hcw1 := Lib.hid hcw1; clear hcw1
  have H_hcw2 := Lib.hid hcw2; clear hcw2
  have H_hs1 := Lib.hid hs1; clear hs1
  have H_hs2 := Lib.hid hs2; clear hs2
  have H_hc1 := Lib.hid hc1; clear hc1
  have H_hc2 := Lib.hid hc2; clear hc2
  have H_hsum := Lib.hid hsum; clear hsum
  have H_t6 := Lib.hid t6; clear t6
  have H_hcc := Lib.hid hcc; clear hcc
  go_enter_defers Tryz.func86, Tryz.ntmps86
  go_wp2_with (fail)
  generalize hw1 : ((w.alloc _).alloc _).alloc _ = w1
  rw [← hg]
  obtain ⟨r1, r2, r3, fa, _⟩ := H_bx.out w1 hw1
  have sz1 : w1.heap.size = g + 3 := by rw [← hw1, hg]; simp
  have hb1 := getBint_any w1 (by have := H_hsz0.out; omega)
  rw [sz1] at hb1
  have H_r1 := Lib.hid r1; clear r1
  have H_r2 := Lib.hid r2; clear r2
  have H_r3 := Lib.hid r3; clear r3
  have H_fa := Lib.hid fa; clear fa
  have H_hw1 := Lib.hid hw1; clear hw1
  have H_hg := Lib.hid hg; clear hg
  have H_hb1 := Lib.hid hb1; clear hb1
  have H_sz1 := Lib.hid sz1; clear sz1
  go_wp2_with (fail)
  refine H_hb1.out.mono ?_
  rintro e w2 ⟨rfl, z2, f2, sz2⟩
  have sz2' : w2.heap.size = g + 4 := by omega
  have hb2 := getBint_any w2 (by have := H_hsz0.out; have := H_hg.out; omega)
  rw [sz2'] at hb2
  have H_z2 := Lib.hid z2; clear z2
  have H_f2 := Lib.hid f2; clear f2
  have H_sz2 := Lib.hid sz2; clear sz2
  have H_sz2' := Lib.hid sz2'; clear sz2'
  have H_hb2 := Lib.hid hb2; clear hb2
  go_wp2_with (fail)
  refine H_hb2.out.mono ?_
  rintro e w3 ⟨rfl, y3, f3, sz3⟩
  have ff := fresh_trans H_f2.out f3
  have bs : BS w w3 g m1 m2 c1 s1 c2 s1 (.slice none 0 0) (.slice none 0 0) 0 0 := ⟨row_fresh H_r1.out ff, row_fresh H_r2.out ff, row_fresh H_r3.out ff, H_z2.out.fresh f3, y3, fun k h => by simp [Value.ownBlock] at h, fun k h => by simp [Value.ownBlock] at h, fun k h => by simp [Value.ownBlock] at h, fresh_trans H_fa.out ff, H_hg.out, by omega⟩
  clear H_r1 H_r2 H_r3 H_fa H_z2 H_f2 y3 f3 sz3 ff
  obtain ⟨k0, k1, k2, k3, k4, k5⟩ := bs.cells
  have H_bs := Lib.hid bs; clear bs
  go_wp2_with (fail)
  refine (setFint_any (g + 3) _ 0 c1 _ (by have := H_hc1.out; omega) H_bs.out.z).mono ?_
  rintro e w4 ⟨rfl, hbs⟩
  obtain ⟨x4, bs⟩ := H_bs.out.setP hbs
  clear H_bs hbs
  clear k0 k1 k2 k3 k4 k5
  obtain ⟨k0, k1, k2, k3, k4, k5⟩ := bs.cells
  have H_bs := Lib.hid bs; clear bs
  go_wp2_with (fail)
  refine (Scale_any m1 s1 c1 _ H_hs1.out).mono ?_
  rintro e w5 ⟨rfl, f9⟩
  have bs := H_bs.out.fresh f9
  clear H_bs f9
  clear k0 k1 k2 k3 k4 k5
  obtain ⟨k0, k1, k2, k3, k4, k5⟩ := bs.cells
  have H_bs := Lib.hid bs; clear bs
  go_wp2_with (fail)
  refine (setFint_any (g + 4) _ 0 c2 _ (by have := H_hc2.out; omega) H_bs.out.y).mono ?_
  rintro e w6 ⟨rfl, hbs⟩
  obtain ⟨x6, bs⟩ := H_bs.out.setQ hbs
  clear H_bs hbs
  clear k0 k1 k2 k3 k4 k5
  obtain ⟨k0, k1, k2, k3, k4, k5⟩ := bs.cells
  have H_bs := Lib.hid bs; clear bs
  go_wp2_with (fail)
  refine (IsNeg_any m1 s1 c1 _).mono ?_
  rintro e w7 ⟨rfl, f9⟩
  have bs := H_bs.out.fresh f9
  clear H_bs f9
  clear k0 k1 k2 k3 k4 k5
  obtain ⟨k0, k1, k2, k3, k4, k5⟩ := bs.cells
  have H_bs := Lib.hid bs; clear bs
  go_wp2_with (fail)
  refine (Scale_any m2 s1 c2 _ H_hs1.out).mono ?_
  rintro e w8 ⟨rfl, f9⟩
  have bs := H_bs.out.fresh f9
  clear H_bs f9
  clear k0 k1 k2 k3 k4 k5
  obtain ⟨k0, k1, k2, k3, k4, k5⟩ := bs.cells
  have H_bs := Lib.hid bs; clear bs
  go_wp2_with (fail)
  refine (Scale_any m2 s1 c2 _ H_hs1.out).mono ?_
  rintro e w9 ⟨rfl, f9⟩
  have bs := H_bs.out.fresh f9
  clear H_bs f9
  clear k0 k1 k2 k3 k4 k5
  obtain ⟨k0, k1, k2, k3, k4, k5⟩ := bs.cells
  have H_bs := Lib.hid bs; clear bs
  go_wp2_with (fail)
  refine (IsNeg_any m2 s1 c2 _).mono ?_
  rintro e w10 ⟨rfl, f9⟩
  have bs := H_bs.out.fresh f9
  clear H_bs f9
  clear k0 k1 k2 k3 k4 k5
  obtain ⟨k0, k1, k2, k3, k4, k5⟩ := bs.cells
  have H_bs := Lib.hid bs; clear bs
  have hcmp := bcmp_any (g + 4) (g + 3) _ _ c2 c1 _ H_hcw2.out H_hcw1.out (by omega) H_bs.out.y H_bs.out.z
  rw [← H_hcc.out] at hcmp
  have H_hcmp := Lib.hid hcmp; clear hcmp
  go_wp2_with (fail)
  refine (H_hcmp.out).mono ?_
  rintro e w11 ⟨rfl, qn, rfl⟩
  have bs := H_bs.out.fresh (fresh_drewN _ qn)
  clear H_bs
  generalize w10.drewN qn = w11 at *
  clear k0 k1 k2 k3 k4 k5
  obtain ⟨k0, k1, k2, k3, k4, k5⟩ := bs.cells
  have H_bs := Lib.hid bs; clear bs
  have hsub := subAbs_any (g + 3) (g + 4) c1 c2 _ _ _ H_hcw1.out H_hcw2.out (by omega) H_bs.out.z H_bs.out.y (.inr H_bs.out.od)
  rw [H_t6.out] at hsub
  have H_hsub := Lib.hid hsub; clear hsub
  go_wp2_with (fail)
  refine (H_hsub.out).mono ?_
  rintro e w12 ⟨rfl, hbs⟩
  obtain ⟨x12, bs⟩ := H_bs.out.setP hbs
  clear H_bs hbs
  clear k0 k1 k2 k3 k4 k5
  obtain ⟨k0, k1, k2, k3, k4, k5⟩ := bs.cells
  have H_bs := Lib.hid bs; clear bs
  go_wp2_with (fail)
  refine (H_hnb.out _ _ H_bs.out.f (fun k h => H_bs.out.ov k h) H_bs.out.z).mono ?_
  rintro e w13 ⟨ev, rfl, hev, k9⟩
  have r3 := row_keep H_bs.out.r3 k9 (fun hh => hh.elim (fun h => by omega) (fun h => by have := H_bs.out.ov _ h; omega))
  have fa : Fresh w w13 := H_bs.out.f.trans k9 (fun _ _ h => h) (fun k hk hh => by
    have := H_bs.out.hg
    rcases hh with rfl | hh
    · omega
    · have := H_bs.out.ov k hh; omega)
  have p0 := row_cell r3 0
  have p1 := row_cell r3 1
  have p2 := row_cell r3 2
  simp at p0 p1 p2
  have z0 : w13.frozen? ⟨g + 1 + 1, 0, none⟩ = false := frozen_of_row _ _ _ _ _ r3
  have z1 : w13.frozen? ⟨g + 1 + 1, 1, none⟩ = false := frozen_of_row _ _ _ _ _ r3
  have z2 : w13.frozen? ⟨g + 1 + 1, 2, none⟩ = false := frozen_of_row _ _ _ _ _ r3
  clear k9 k0 k1 k2 k3 k4 k5
  have H_r3 := Lib.hid r3; clear r3
  have H_fa := Lib.hid fa; clear fa
  have H_hev := Lib.hid hev; clear hev
  go_wp2_with (fail)
  refine leaves_cons (f := 102) (args := #[.pointer (some ⟨g + 4, 0, none⟩)]) (by simp) (by simp [go_sem]) ?_
  refine (putBint_idle _ _).mono ?_
  rintro e u' w'' ⟨rfl, rfl, rfl⟩
  refine leaves_cons (f := 102) (args := #[.pointer (some ⟨g + 3, 0, none⟩)]) (by first | (intro h; cases h; done) | simp [settle]) (by simp [go_sem]) ?_
  refine (putBint_idle _ _).mono ?_
  rintro e u2 wf ⟨rfl, rfl, rfl⟩
  refine ⟨_, results_cell_tmp_row rfl _ _ (g + 1 + 1) 50 #[.bool nz, .int .i8 sz, .int .u64 cz] (0, 0) _ rfl (row_set (row_set (row_set H_r3.out))) Tryz.underlying50 rfl (by kernel_rfl), ?_⟩
  exact ⟨ev, rfl, H_hev.out, Fresh.set3 H_fa.out (by have := H_hg.out; omega)⟩

set_option maxRecDepth 20000 in
set_option maxHeartbeats 4000000 in
theorem addBint_lt_same (m1 m2 : Bool) (c1 s1 c2 s2 : Nat) (w : World) (hG : Glob w) (hP : Pow10s w) (ms : Nat) (hs1 : s1 ≤ 19) (hs2 : s2 ≤ 19) (hc1 : c1 ≤ 9999999999999999999) (hc2 : c2 ≤ 9999999999999999999) (hsc : s1 < s2) (hsg : m1 = m2) (nz : Bool) (sz cz : Nat) (Pv : Value → Prop)
    (hnb : ∀ V v, Fresh w V → (∀ k, v.ownBlock = some k → w.heap.size + 5 ≤ k) → BI V (w.heap.size + 3) v (c1 * 10 ^ (s2 - s1) + c2) → Calls Tryz.prog 108 #[.bool m1, .pointer (some ⟨w.heap.size + 3, 0, none⟩), .int .i64 (s2 : Nat), .int .i64 ms] V (NBOut V (w.heap.size + 3) v nz sz cz Pv)) :
    Calls Tryz.prog 86 #[gd m1 s1 c1, gd m2 s2 c2, .int .i64 ms] w (DOut w nz sz cz Pv) := by
  have hcw1 : c1 < wpow 39 := wpow_big (by omega)
  have hcw2 : c2 < wpow 39 := wpow_big (by omega)
  have t1 : decide ((s2 : Int) < (s1 : Int)) = false := by simp; omega
  have t1n : ¬ s2 < s1 := by omega
  have t2 : decide ((s1 : Int) < (s2 : Int)) = true := by simp; omega
  have hbw : c1 * 10 ^ (s2 - s1) < wpow 39 := scaled_lt hc1 (by omega)
  obtain ⟨k, hk⟩ : ∃ k, k = s2 - s1 := ⟨_, rfl⟩
  have hkI : (s2 : Int) - (s1 : Int) = (k : Int) := by omega
  have hk19 : k ≤ 19 := by omega
  have hkw : IntKind.i64.wrap (k : Int) = (k : Int) := wrap_nat k (by omega)
  rw [← hk] at hbw hnb
  have hlsh := fun g v W (hG : Glob W) (hP : Pow10s W) => lsh_self g v c1 k W hG hP hcw1 hk19
  obtain ⟨b, hb⟩ : ∃ b, b = c1 * 10 ^ k := ⟨_, rfl⟩
  rw [← hb] at hbw hnb hlsh
  clear hb hk hk19
  subst hsg
  obtain ⟨g, hg⟩ : ∃ g, g = w.heap.size := ⟨_, rfl⟩
  have hsz0 : NG ≤ w.heap.size := hG.size
  have bx := boxes3 w #[.bool m1, .int .i8 s1, .int .u64 c1] #[.bool m1, .int .i8 s2, .int .u64 c2] #[.bool false, .int .i8 0, .int .u64 0] 50 50 50 g hg
  rw [← hg] at hnb
  have H_bx := Lib.hid bx; clear bx
  have H_hsz0 := Lib.hid hsz0; clear hsz0
  have H_hG := Lib.hid hG; clear hG
  have H_hP := Lib.hid hP; clear hP
  have H_hnb := Lib.hid hnb; clear hnb
  have H_hcw1 := Lib.hid hcw1; clear hcw1
  have H_hcw2 := Lib.hid hcw2; clear hcw2
  have H_hs1 := Lib.hid hs1; clear hs1
  have H_hs2 := Lib.hid hs2; clear hs2
  have H_hc1 := Lib.hid hc1; clear hc1
  have H_hc2 := Lib.hid hc2; clear hc2
  have H_hlsh := Lib.hid hlsh; clear hlsh
  have H_hbw := Lib.hid hbw; clear hbw
  go_enter_defers Tryz.func86, Tryz.ntmps86
  go_wp2_with (fail)
  generalize hw1 : ((w.alloc _).alloc _).alloc _ = w1
  rw [← hg]
  obtain ⟨r1, r2, r3, fa, _⟩ := H_bx.out w1 hw1
  have sz1 : w1.heap.size = g + 3 := by rw [← hw1, hg]; simp
  have hb1 := getBint_any w1 (by have := H_hsz0.out; omega)
  rw [sz1] at hb1
  have H_r1 := Lib.hid r1; clear r1
  have H_r2 := Lib.hid r2; clear r2
  have H_r3 := Lib.hid r3; clear r3
  have H_fa := Lib.hid fa; clear fa
  have H_hw1 := Lib.hid hw1; clear hw1
  have H_hg := Lib.hid hg; clear hg
  have H_hb1 := Lib.hid hb1; clear hb1
  have H_sz1 := Lib.hid sz1; clear sz1
  go_wp2_with (fail)
  refine H_hb1.out.mono ?_
  rintro e w2 ⟨rfl, z2, f2, sz2⟩
  have sz2' : w2.heap.size = g + 4 := by omega
  have hb2 := getBint_any w2 (by have := H_hsz0.out; have := H_hg.out; omega)
  rw [sz2'] at hb2
  have H_z2 := Lib.hid z2; clear z2
  have H_f2 := Lib.hid f2; clear f2
  have H_sz2 := Lib.hid sz2; clear sz2
  have H_sz2' := Lib.hid sz2'; clear sz2'
  have H_hb2 := Lib.hid hb2; clear hb2
  go_wp2_with (fail)
  refine H_hb2.out.mono ?_
  rintro e w3 ⟨rfl, y3, f3, sz3⟩
  have ff := fresh_trans H_f2.out f3
  have bs : BS w w3 g m1 m1 c1 s1 c2 s2 (.slice none 0 0) (.slice none 0 0) 0 0 := ⟨row_fresh H_r1.out ff, row_fresh H_r2.out ff, row_fresh H_r3.out ff, H_z2.out.fresh f3, y3, fun k h => by simp [Value.ownBlock] at h, fun k h => by simp [Value.ownBlock] at h, fun k h => by simp [Value.ownBlock] at h, fresh_trans H_fa.out ff, H_hg.out, by omega⟩
  clear H_r1 H_r2 H_r3 H_fa H_z2 H_f2 y3 f3 sz3 ff
  obtain ⟨k0, k1, k2, k3, k4, k5⟩ := bs.cells
  have H_bs := Lib.hid bs; clear bs
  go_wp2_with (fail)
  refine (setFint_any (g + 3) _ 0 c1 _ (by have := H_hc1.out; omega) H_bs.out.z).mono ?_
  rintro e w4 ⟨rfl, hbs⟩
  obtain ⟨x4, bs⟩ := H_bs.out.setP hbs
  clear H_bs hbs
  clear k0 k1 k2 k3 k4 k5
  obtain ⟨k0, k1, k2, k3, k4, k5⟩ := bs.cells
  have H_bs := Lib.hid bs; clear bs
  go_wp2_with (fail)
  refine (Scale_any m1 s1 c1 _ H_hs1.out).mono ?_
  rintro e w5 ⟨rfl, f9⟩
  have bs := H_bs.out.fresh f9
  clear H_bs f9
  clear k0 k1 k2 k3 k4 k5
  obtain ⟨k0, k1, k2, k3, k4, k5⟩ := bs.cells
  have H_bs := Lib.hid bs; clear bs
  go_wp2_with (fail)
  refine (setFint_any (g + 4) _ 0 c2 _ (by have := H_hc2.out; omega) H_bs.out.y).mono ?_
  rintro e w6 ⟨rfl, hbs⟩
  obtain ⟨x6, bs⟩ := H_bs.out.setQ hbs
  clear H_bs hbs
  clear k0 k1 k2 k3 k4 k5
  obtain ⟨k0, k1, k2, k3, k4, k5⟩ := bs.cells
  have H_bs := Lib.hid bs; clear bs
  go_wp2_with (fail)
  refine (IsNeg_any m1 s1 c1 _).mono ?_
  rintro e w7 ⟨rfl, f9⟩
  have bs := H_bs.out.fresh f9
  clear H_bs f9
  clear k0 k1 k2 k3 k4 k5
  obtain ⟨k0, k1, k2, k3, k4, k5⟩ := bs.cells
  have H_bs := Lib.hid bs; clear bs
  go_wp2_with (fail)
  refine (Scale_any m1 s2 c2 _ H_hs2.out).mono ?_
  rintro e w8 ⟨rfl, f9⟩
  have bs := H_bs.out.fresh f9
  clear H_bs f9
  clear k0 k1 k2 k3 k4 k5
  obtain ⟨k0, k1, k2, k3, k4, k5⟩ := bs.cells
  have H_bs := Lib.hid bs; clear bs
  go_wp2_with (fail)
  refine (Scale_any m1 s2 c2 _ H_hs2.out).mono ?_
  rintro e w9 ⟨rfl, f9⟩
  have bs := H_bs.out.fresh f9
  clear H_bs f9
  clear k0 k1 k2 k3 k4 k5
  obtain ⟨k0, k1, k2, k3, k4, k5⟩ := bs.cells
  have H_bs := Lib.hid bs; clear bs
  go_wp2_with (fail)
  refine (Scale_any m1 s2 c2 _ H_hs2.out).mono ?_
  rintro e w10 ⟨rfl, f9⟩
  have bs := H_bs.out.fresh f9
  clear H_bs f9
  clear k0 k1 k2 k3 k4 k5
  obtain ⟨k0, k1, k2, k3, k4, k5⟩ := bs.cells
  have H_bs := Lib.hid bs; clear bs
  go_wp2_with (fail)
  refine (H_hlsh.out (g + 3) _ _ (H_hG.out.fresh H_bs.out.f) (H_hP.out.fresh H_bs.out.f) H_bs.out.z).mono ?_
  rintro e w11 ⟨rfl, hbs⟩
  obtain ⟨x11, bs⟩ := H_bs.out.setP hbs
  clear H_bs hbs
  clear k0 k1 k2 k3 k4 k5
  obtain ⟨k0, k1, k2, k3, k4, k5⟩ := bs.cells
  have H_bs := Lib.hid bs; clear bs
  go_wp2_with (fail)
  refine (Scale_any m1 s2 c2 _ H_hs2.out).mono ?_
  rintro e w12 ⟨rfl, f9⟩
  have bs := H_bs.out.fresh f9
  clear H_bs f9
  clear k0 k1 k2 k3 k4 k5
  obtain ⟨k0, k1, k2, k3, k4, k5⟩ := bs.cells
  have H_bs := Lib.hid bs; clear bs
  go_wp2_with (fail)
  refine (IsNeg_any m1 s2 c2 _).mono ?_
  rintro e w13 ⟨rfl, f9⟩
  have bs := H_bs.out.fresh f9
  clear H_bs f9
  clear k0 k1 k2 k3 k4 k5
  obtain ⟨k0, k1, k2, k3, k4, k5⟩ := bs.cells
  have H_bs := Lib.hid bs; clear bs
  go_wp2_with (fail)
  refine (badd_any (g + 3) (g + 3) (g + 4) _ _ _ b b c2 _ H_hbw.out H_hcw2.out H_bs.out.z H_bs.out.z H_bs.out.y (.inl rfl) (.inr H_bs.out.od)).mono ?_
  rintro e w14 ⟨rfl, hbs⟩
  obtain ⟨x14, bs⟩ := H_bs.out.setP hbs
  clear H_bs hbs
  clear k0 k1 k2 k3 k4 k5
  obtain ⟨k0, k1, k2, k3, k4, k5⟩ := bs.cells
  have H_bs := Lib.hid bs; clear bs
  go_wp2_with (fail)
  refine (H_hnb.out _ _ H_bs.out.f (fun k h => H_bs.out.ov k h) H_bs.out.z).mono ?_
  rintro e w15 ⟨ev, rfl, hev, k9⟩
  have r3 := row_keep H_bs.out.r3 k9 (fun hh => hh.elim (fun h => by omega) (fun h => by have := H_bs.out.ov _ h; omega))
  have fa : Fresh w w15 := H_bs.out.f.trans k9 (fun _ _ h => h) (fun k hk hh => by
    have := H_bs.out.hg
    rcases hh with rfl | hh
    · omega
    · have := H_bs.out.ov k hh; omega)
  have p0 := row_cell r3 0
  have p1 := row_cell r3 1
  have p2 := row_cell r3 2
  simp at p0 p1 p2
  have z0 : w15.frozen? ⟨g + 1 + 1, 0, none⟩ = false := frozen_of_row _ _ _ _ _ r3
  have z1 : w15.frozen? ⟨g + 1 + 1, 1, none⟩ = false := frozen_of_row _ _ _ _ _ r3
  have z2 : w15.frozen? ⟨g + 1 + 1, 2, none⟩ = false := frozen_of_row _ _ _ _ _ r3
  clear k9 k0 k1 k2 k3 k4 k5
  have H_r3 := Lib.hid r3; clear r3
  have H_fa := Lib.hid fa; clear fa
  have H_hev := Lib.hid hev; clear hev
  go_wp2_with (fail)
  refine leaves_cons (f := 102) (args := #[.pointer (some ⟨g + 4, 0, none⟩)]) (by simp) (by simp [go_sem]) ?_
  refine (putBint_idle _ _).mono ?_
  rintro e u' w'' ⟨rfl, rfl, rfl⟩
  refine leaves_cons (f := 102) (args := #[.pointer (some ⟨g + 3, 0, none⟩)]) (by first | (intro h; cases h; done) | simp [settle]) (by simp [go_sem]) ?_
  refine (putBint_idle _ _).mono ?_
  rintro e u2 wf ⟨rfl, rfl, rfl⟩
  refine ⟨_, results_cell_tmp_row rfl _ _ (g + 1 + 1) 50 #[.bool nz, .int .i8 sz, .int .u64 cz] (0, 0) _ rfl (row_set (row_set (row_set H_r3.out))) Tryz.underlying50 rfl (by kernel_rfl), ?_⟩
  exact ⟨ev, rfl, H_hev.out, Fresh.set3 H_fa.out (by have := H_hg.out; omega)⟩

set_option maxRecDepth 20000 in
set_option maxHeartbeats 4000000 in
theorem addBint_lt_less (m1 m2 : Bool) (c1 s1 c2 s2 : Nat) (w : World) (hG : Glob w) (hP : Pow10s w) (ms : Nat) (hs1 : s1 ≤ 19) (hs2 : s2 ≤ 19) (hc1 : c1 ≤ 9999999999999999999) (hc2 : c2 ≤ 9999999999999999999) (hsc : s1 < s2) (hsg : m1 ≠ m2) (hsum : c1 * 10 ^ (s2 - s1) < c2) (nz : Bool) (sz cz : Nat) (Pv : Value → Prop)
    (hnb : ∀ V v, Fresh w V → (∀ k, v.ownBlock = some k → w.heap.size + 5 ≤ k) → BI V (w.heap.size + 3) v (adf (c1 * 10 ^ (s2 - s1)) (c2)) → Calls Tryz.prog 108 #[.bool m2, .pointer (some ⟨w.heap.size + 3, 0, none⟩), .int .i64 (s2 : Nat), .int .i64 ms] V (NBOut V (w.heap.size + 3) v nz sz cz Pv)) :
    Calls Tryz.prog 86 #[gd m1 s1 c1, gd m2 s2 c2, .int .i64 ms] w (DOut w nz sz cz Pv) := by
  have hcw1 : c1 < wpow 39 := wpow_big (by omega)
  have hcw2 : c2 < wpow 39 := wpow_big (by omega)
  have t1 : decide ((s2 : Int) < (s1 : Int)) = false := by simp; omega
  have t1n : ¬ s2 < s1 := by omega
  have t2 : decide ((s1 : Int) < (s2 : Int)) = true := by simp; omega
  have hbw : c1 * 10 ^ (s2 - s1) < wpow 39 := scaled_lt hc1 (by omega)
  obtain ⟨k, hk⟩ : ∃ k, k = s2 - s1 := ⟨_, rfl⟩
  have hkI : (s2 : Int) - (s1 : Int) = (k : Int) := by omega
  have hk19 : k ≤ 19 := by omega
  have hkw : IntKind.i64.wrap (k : Int) = (k : Int) := wrap_nat k (by omega)
  rw [← hk] at hbw hnb hsum
  have hlsh := fun g v W (hG : Glob W) (hP : Pow10s W) => lsh_self g v c1 k W hG hP hcw1 hk19
  obtain ⟨b, hb⟩ : ∃ b, b = c1 * 10 ^ k := ⟨_, rfl⟩
  rw [← hb] at hbw hnb hlsh hsum
  clear hb hk hk19
  have t4 : (m1 == m2) = false := by simpa using hsg
  have t5 : cmpN (c2) (b) = 1 := by unfold cmpN; rw [if_neg (by omega), if_pos hsum]
  have t6 : (if c2 ≤ b then b - c2 else c2 - b) = adf b c2 := by unfold adf; split <;> split <;> omega
  have H_hsg := Lib.hid hsg
  clear hsg
  generalize adf b c2 = q at *
  obtain ⟨g, hg⟩ : ∃ g, g = w.heap.size := ⟨_, rfl⟩
  have hsz0 : NG ≤ w.heap.size := hG.size
  have bx := boxes3 w #[.bool m1, .int .i8 s1, .int .u64 c1] #[.bool m2, .int .i8 s2, .int .u64 c2] #[.bool false, .int .i8 0, .int .u64 0] 50 50 50 g hg
  rw [← hg] at hnb
  have H_bx := Lib.hid bx; clear bx
  have H_hsz0 := Lib.hid hsz0; clear hsz0
  have H_hG := Lib.hid hG; clear hG
  have H_hP := Lib.hid hP; clear hP
  have H_hnb := Lib.hid hnb; clear hnb
  have H_hcw1 := Lib.hid hcw1; clear hcw1
  have H_hcw2 := Lib.hid hcw2; clear hcw2
  have H_hs1 := Lib.hid hs1; clear hs1
  have H_hs2 := Lib.hid hs2; clear hs2
  have H_hc1 := Lib.hid hc1; clear hc1
  have H_hc2 := Lib.hid hc2; clear hc2
  have H_hlsh := Lib.hid hlsh; clear hlsh
  have H_hbw := Lib.hid hbw; clear hbw
  have H_hsum := Lib.hid hsum; clear hsum
  have H_t6 := Lib.hid t6; clear t6
  have H_t5 := Lib.hid t5; clear t5
  go_enter_defers Tryz.func86, Tryz.ntmps86
  go_wp2_with (fail)
  generalize hw1 : ((w.alloc _).alloc _).alloc _ = w1
  rw [← hg]
  obtain ⟨r1, r2, r3, fa, _⟩ := H_bx.out w1 hw1
  have sz1 : w1.heap.size = g + 3 := by rw [← hw1, hg]; simp
  have hb1 := getBint_any w1 (by have := H_hsz0.out; omega)
  rw [sz1] at hb1
  have H_r1 := Lib.hid r1; clear r1
  have H_r2 := Lib.hid r2; clear r2
  have H_r3 := Lib.hid r3; clear r3
  have H_fa := Lib.hid fa; clear fa
  have H_hw1 := Lib.hid hw1; clear hw1
  have H_hg := Lib.hid hg; clear hg
  have H_hb1 := Lib.hid hb1; clear hb1
  have H_sz1 := Lib.hid sz1; clear sz1
  go_wp2_with (fail)
  refine H_hb1.out.mono ?_
  rintro e w2 ⟨rfl, z2, f2, sz2⟩
  have sz2' : w2.heap.size = g + 4 := by omega
  have hb2 := getBint_any w2 (by have := H_hsz0.out; have := H_hg.out; omega)
  rw [sz2'] at hb2
  have H_z2 := Lib.hid z2; clear z2
  have H_f2 := Lib.hid f2; clear f2
  have H_sz2 := Lib.hid sz2; clear sz2
  have H_sz2' := Lib.hid sz2'; clear sz2'
  have H_hb2 := Lib.hid hb2; clear hb2
  go_wp2_with (fail)
  refine H_hb2.out.mono ?_
  rintro e w3 ⟨rfl, y3, f3, sz3⟩
  have ff := fresh_trans H_f2.out f3
  have bs : BS w w3 g m1 m2 c1 s1 c2 s2 (.slice none 0 0) (.slice none 0 0) 0 0 := ⟨row_fresh H_r1.out ff, row_fresh H_r2.out ff, row_fresh H_r3.out ff, H_z2.out.fresh f3, y3, fun k h => by simp [Value.ownBlock] at h, fun k h => by simp [Value.ownBlock] at h, fun k h => by simp [Value.ownBlock] at h, fresh_trans H_fa.out ff, H_hg.out, by omega⟩
  clear H_r1 H_r2 H_r3 H_fa H_z2 H_f2 y3 f3 sz3 ff
  obtain ⟨k0, k1, k2, k3, k4, k5⟩ := bs.cells
  have H_bs := Lib.hid bs; clear bs
  go_wp2_with (fail)
  refine (setFint_any (g + 3) _ 0 c1 _ (by have := H_hc1.out; omega) H_bs.out.z).mono ?_
  rintro e w4 ⟨rfl, hbs⟩
  obtain ⟨x4, bs⟩ := H_bs.out.setP hbs
  clear H_bs hbs
  clear k0 k1 k2 k3 k4 k5
  obtain ⟨k0, k1, k2, k3, k4, k5⟩ := bs.cells
  have H_bs := Lib.hid bs; clear bs
  go_wp2_with (fail)
  refine (Scale_any m1 s1 c1 _ H_hs1.out).mono ?_
  rintro e w5 ⟨rfl, f9⟩
  have bs := H_bs.out.fresh f9
  clear H_bs f9
  clear k0 k1 k2 k3 k4 k5
  obtain ⟨k0, k1, k2, k3, k4, k5⟩ := bs.cells
  have H_bs := Lib.hid bs; clear bs
  go_wp2_with (fail)
  refine (setFint_any (g + 4) _ 0 c2 _ (by have := H_hc2.out; omega) H_bs.out.y).mono ?_
  rintro e w6 ⟨rfl, hbs⟩
  obtain ⟨x6, bs⟩ := H_bs.out.setQ hbs
  clear H_bs hbs
  clear k0 k1 k2 k3 k4 k5
  obtain ⟨k0, k1, k2, k3, k4, k5⟩ := bs.cells
  have H_bs := Lib.hid bs; clear bs
  go_wp2_with (fail)
  refine (IsNeg_any m1 s1 c1 _).mono ?_
  rintro e w7 ⟨rfl, f9⟩
  have bs := H_bs.out.fresh f9
  clear H_bs f9
  clear k0 k1 k2 k3 k4 k5
  obtain ⟨k0, k1, k2, k3, k4, k5⟩ := bs.cells
  have H_bs := Lib.hid bs; clear bs
  go_wp2_with (fail)
  refine (Scale_any m2 s2 c2 _ H_hs2.out).mono ?_
  rintro e w8 ⟨rfl, f9⟩
  have bs := H_bs.out.fresh f9
  clear H_bs f9
  clear k0 k1 k2 k3 k4 k5
  obtain ⟨k0, k1, k2, k3, k4, k5⟩ := bs.cells
  have H_bs := Lib.hid bs; clear bs
  go_wp2_with (fail)
  refine (Scale_any m2 s2 c2 _ H_hs2.out).mono ?_
  rintro e w9 ⟨rfl, f9⟩
  have bs := H_bs.out.fresh f9
  clear H_bs f9
  clear k0 k1 k2 k3 k4 k5
  obtain ⟨k0, k1, k2, k3, k4, k5⟩ := bs.cells
  have H_bs := Lib.hid bs; clear bs
  go_wp2_with (fail)
  refine (Scale_any m2 s2 c2 _ H_hs2.out).mono ?_
  rintro e w10 ⟨rfl, f9⟩
  have bs := H_bs.out.fresh f9
  clear H_bs f9
  clear k0 k1 k2 k3 k4 k5
  obtain ⟨k0, k1, k2, k3, k4, k5⟩ := bs.cells
  have H_bs := Lib.hid bs; clear bs
  go_wp2_with (fail)
  refine (H_hlsh.out (g + 3) _ _ (H_hG.out.fresh H_bs.out.f) (H_hP.out.fresh H_bs.out.f) H_bs.out.z).mono ?_
  rintro e w11 ⟨rfl, hbs⟩
  obtain ⟨x11, bs⟩ := H_bs.out.setP hbs
  clear H_bs hbs
  clear k0 k1 k2 k3 k4 k5
  obtain ⟨k0, k1, k2, k3, k4, k5⟩ := bs.cells
  have H_bs := Lib.hid bs; clear bs
  go_wp2_with (fail)
  refine (Scale_any m2 s2 c2 _ H_hs2.out).mono ?_
  rintro e w12 ⟨rfl, f9⟩
  have bs := H_bs.out.fresh f9
  clear H_bs f9
  clear k0 k1 k2 k3 k4 k5
  obtain ⟨k0, k1, k2, k3, k4, k5⟩ := bs.cells
  have H_bs := Lib.hid bs; clear bs
  go_wp2_with (fail)
  refine (IsNeg_any m2 s2 c2 _).mono ?_
  rintro e w13 ⟨rfl, f9⟩
  have bs := H_bs.out.fresh f9
  clear H_bs f9
  clear k0 k1 k2 k3 k4 k5
  obtain ⟨k0, k1, k2, k3, k4, k5⟩ := bs.cells
  have H_bs := Lib.hid bs; clear bs
  have hcmp := bcmp_any (g + 4) (g + 3) _ _ c2 b _ H_hcw2.out H_hbw.out (by omega) H_bs.out.y H_bs.out.z
  rw [H_t5.out] at hcmp
  have H_hcmp := Lib.hid hcmp; clear hcmp
  go_wp2_with (fail)
  refine (H_hcmp.out).mono ?_
  rintro e w14 ⟨rfl, qn, rfl⟩
  have bs := H_bs.out.fresh (fresh_drewN _ qn)
  clear H_bs
  generalize w13.drewN qn = w14 at *
  clear k0 k1 k2 k3 k4 k5
  obtain ⟨k0, k1, k2, k3, k4, k5⟩ := bs.cells
  have H_bs := Lib.hid bs; clear bs
  go_wp2_with (fail)
  refine (IsNeg_any m2 s2 c2 _).mono ?_
  rintro e w15 ⟨rfl, f9⟩
  have bs := H_bs.out.fresh f9
  clear H_bs f9
  clear k0 k1 k2 k3 k4 k5
  obtain ⟨k0, k1, k2, k3, k4, k5⟩ := bs.cells
  have H_bs := Lib.hid bs; clear bs
  have hsub := subAbs_any (g + 3) (g + 4) b c2 _ _ _ H_hbw.out H_hcw2.out (by omega) H_bs.out.z H_bs.out.y (.inr H_bs.out.od)
  rw [H_t6.out] at hsub
  have H_hsub := Lib.hid hsub; clear hsub
  go_wp2_with (fail)
  refine (H_hsub.out).mono ?_
  rintro e w16 ⟨rfl, hbs⟩
  obtain ⟨x16, bs⟩ := H_bs.out.setP hbs
  clear H_bs hbs
  clear k0 k1 k2 k3 k4 k5
  obtain ⟨k0, k1, k2, k3, k4, k5⟩ := bs.cells
  have H_bs := Lib.hid bs; clear bs
  go_wp2_with (fail)
  refine (H_hnb.out _ _ H_bs.out.f (fun k h => H_bs.out.ov k h) H_bs.out.z).mono ?_
  rintro e w17 ⟨ev, rfl, hev, k9⟩
  have r3 := row_keep H_bs.out.r3 k9 (fun hh => hh.elim (fun h => by omega) (fun h => by have := H_bs.out.ov _ h; omega))
  have fa : Fresh w w17 := H_bs.out.f.trans k9 (fun _ _ h => h) (fun k hk hh => by
    have := H_bs.out.hg
    rcases hh with rfl | hh
    · omega
    · have := H_bs.out.ov k hh; omega)
  have p0 := row_cell r3 0
  have p1 := row_cell r3 1
  have p2 := row_cell r3 2
  simp at p0 p1 p2
  have z0 : w17.frozen? ⟨g + 1 + 1, 0, none⟩ = false := frozen_of_row _ _ _ _ _ r3
  have z1 : w17.frozen? ⟨g + 1 + 1, 1, none⟩ = false := frozen_of_row _ _ _ _ _ r3
  have z2 : w17.frozen? ⟨g + 1 + 1, 2, none⟩ = false := frozen_of_row _ _ _ _ _ r3
  clear k9 k0 k1 k2 k3 k4 k5
  have H_r3 := Lib.hid r3; clear r3
  have H_fa := Lib.hid fa; clear fa
  have H_hev := Lib.hid hev; clear hev
  go_wp2_with (fail)
  refine leaves_cons (f := 102) (args := #[.pointer (some ⟨g + 4, 0, none⟩)]) (by simp) (by simp [go_sem]) ?_
  refine (putBint_idle _ _).mono ?_
  rintro e u' w'' ⟨rfl, rfl, rfl⟩
  refine leaves_cons (f := 102) (args := #[.pointer (some ⟨g + 3, 0, none⟩)]) (by first | (intro h; cases h; done) | simp [settle]) (by simp [go_sem]) ?_
  refine (putBint_idle _ _).mono ?_
  rintro e u2 wf ⟨rfl, rfl, rfl⟩
  refine ⟨_, results_cell_tmp_row rfl _ _ (g + 1 + 1) 50 #[.bool nz, .int .i8 sz, .int .u64 cz] (0, 0) _ rfl (row_set (row_set (row_set H_r3.out))) Tryz.underlying50 rfl (by kernel_rfl), ?_⟩
  exact ⟨ev, rfl, H_hev.out, Fresh.set3 H_fa.out (by have := H_hg.out; omega)⟩

set_option maxRecDepth 20000 in
set_option maxHeartbeats 4000000 in
theorem addBint_lt_more (m1 m2 : Bool) (c1 s1 c2 s2 : Nat) (w : World) (hG : Glob w) (hP : Pow10s w) (ms : Nat) (hs1 : s1 ≤ 19) (hs2 : s2 ≤ 19) (hc1 : c1 ≤ 9999999999999999999) (hc2 : c2 ≤ 9999999999999999999) (hsc : s1 < s2) (hsg : m1 ≠ m2) (hsum : ¬ c1 * 10 ^ (s2 - s1) < c2) (nz : Bool) (sz cz : Nat) (Pv : Value → Prop)
    (hnb : ∀ V v, Fresh w V → (∀ k, v.ownBlock = some k → w.heap.size + 5 ≤ k) → BI V (w.heap.size + 3) v (adf (c1 * 10 ^ (s2 - s1)) (c2)) → Calls Tryz.prog 108 #[.bool m1, .pointer (some ⟨w.heap.size + 3, 0, none⟩), .int .i64 (s2 : Nat), .int .i64 ms] V (NBOut V (w.heap.size + 3) v nz sz cz Pv)) :
    Calls Tryz.prog 86 #[gd m1 s1 c1, gd m2 s2 c2, .int .i64 ms] w (DOut w nz sz cz Pv) := by
  have hcw1 : c1 < wpow 39 := wpow_big (by omega)
  have hcw2 : c2 < wpow 39 := wpow_big (by omega)
  have t1 : decide ((s2 : Int) < (s1 : Int)) = false := by simp; omega
  have t1n : ¬ s2 < s1 := by omega
  have t2 : decide ((s1 : Int) < (s2 : Int)) = true := by simp; omega
  have hbw : c1 * 10 ^ (s2 - s1) < wpow 39 := scaled_lt hc1 (by omega)
  obtain ⟨k, hk⟩ : ∃ k, k = s2 - s1 := ⟨_, rfl⟩
  have hkI : (s2 : Int) - (s1 : Int) = (k : Int) := by omega
  have hk19 : k ≤ 19 := by omega
  have hkw : IntKind.i64.wrap (k : Int) = (k : Int) := wrap_nat k (by omega)
  rw [← hk] at hbw hnb hsum
  have hlsh := fun g v W (hG : Glob W) (hP : Pow10s W) => lsh_self g v c1 k W hG hP hcw1 hk19
  obtain ⟨b, hb⟩ : ∃ b, b = c1 * 10 ^ k := ⟨_, rfl⟩
  rw [← hb] at hbw hnb hlsh hsum
  clear hb hk hk19
  have t4 : (m1 == m2) = false := by simpa using hsg
  have t5 : decide (0 < cmpN c2 b) = false := cmpN_not hsum
  have t6 : (if c2 ≤ b then b - c2 else c2 - b) = adf b c2 := by unfold adf; split <;> split <;> omega
  obtain ⟨cc, hcc⟩ : ∃ cc, cc = cmpN c2 b := ⟨_, rfl⟩
  rw [← hcc] at t5
  have H_hsg := Lib.hid hsg
  clear hsg
  generalize adf b c2 = q at *
  obtain ⟨g, hg⟩ : ∃ g, g = w.heap.size := ⟨_, rfl⟩
  have hsz0 : NG ≤ w.heap.size := hG.size
  have bx := boxes3 w #[.bool m1, .int .i8 s1, .int .u64 c1] #[.bool m2, .int .i8 s2, .int .u64 c2] #[.bool false, .int .i8 0, .int .u64 0] 50 50 50 g hg
  rw [← hg] at hnb
  have H_bx := Lib.hid bx; clear bx
  have H_hsz0 := Lib.hid hsz0; clear hsz0
  have H_hG := Lib.hid hG; clear hG
  have H_hP := Lib.hid hP; clear hP
  have H_hnb := Lib.hid hnb; clear hnb
  have H_hcw1 := Lib.hid hcw1; clear hcw1
  have H_hcw2 := Lib.hid hcw2; clear hcw2
  have H_hs1 := Lib.hid hs1; clear hs1
  have H_hs2 := Lib.hid hs2; clear hs2
  have H_hc1 := Lib.hid hc1; clear hc1
  have H_hc2 := Lib.hid hc2; clear hc2
  have H_hlsh := Lib.hid hlsh; clear hlsh
  have H_hbw := Lib.hid hbw; clear hbw
  have H_hsum := Lib.hid hsum; clear hsum
  have H_t6 := Lib.hid t6; clear t6
  have H_hcc := Lib.hid hcc; clear hcc
  go_enter_defers Tryz.func86, Tryz.ntmps86
  go_wp2_with (fail)
  generalize hw1 : ((w.alloc _).alloc _).alloc _ = w1
  rw [← hg]
  obtain ⟨r1, r2, r3, fa, _⟩ := H_bx.out w1 hw1
  have sz1 : w1.heap.size = g + 3 := by rw [← hw1, hg]; simp
  have hb1 := getBint_any w1 (by have := H_hsz0.out; omega)
  rw [sz1] at hb1
  have H_r1 := Lib.hid r1; clear r1
  have H_r2 := Lib.hid r2; clear r2
  have H_r3 := Lib.hid r3; clear r3
  have H_fa := Lib.hid fa; clear fa
  have H_hw1 := Lib.hid hw1; clear hw1
  have H_hg := Lib.hid hg; clear hg
  have H_hb1 := Lib.hid hb1; clear hb1
  have H_sz1 := Lib.hid sz1; clear sz1
  go_wp2_with (fail)
  refine H_hb1.out.mono ?_
  rintro e w2 ⟨rfl, z2, f2, sz2⟩
  have sz2' : w2.heap.size = g + 4 := by omega
  have hb2 := getBint_any w2 (by have := H_hsz0.out; have := H_hg.out; omega)
  rw [sz2'] at hb2
  have H_z2 := Lib.hid z2; clear z2
  have H_f2 := Lib.hid f2; clear f2
  have H_sz2 := Lib.hid sz2; clear sz2
  have H_sz2' := Lib.hid sz2'; clear sz2'
  have H_hb2 := Lib.hid hb2; clear hb2
  go_wp2_with (fail)
  refine H_hb2.out.mono ?_
  rintro e w3 ⟨rfl, y3, f3, sz3⟩
  have ff := fresh_trans H_f2.out f3
  have bs : BS w w3 g m1 m2 c1 s1 c2 s2 (.slice none 0 0) (.slice none 0 0) 0 0 := ⟨row_fresh H_r1.out ff, row_fresh H_r2.out ff, row_fresh H_r3.out ff, H_z2.out.fresh f3, y3, fun k h => by simp [Value.ownBlock] at h, fun k h => by simp [Value.ownBlock] at h, fun k h => by simp [Value.ownBlock] at h, fresh_trans H_fa.out ff, H_hg.out, by omega⟩
  clear H_r1 H_r2 H_r3 H_fa H_z2 H_f2 y3 f3 sz3 ff
  obtain ⟨k0, k1, k2, k3, k4, k5⟩ := bs.cells
  have H_bs := Lib.hid bs; clear bs
  go_wp2_with (fail)
  refine (setFint_any (g + 3) _ 0 c1 _ (by have := H_hc1.out; omega) H_bs.out.z).mono ?_
  rintro e w4 ⟨rfl, hbs⟩
  obtain ⟨x4, bs⟩ := H_bs.out.setP hbs
  clear H_bs hbs
  clear k0 k1 k2 k3 k4 k5
  obtain ⟨k0, k1, k2, k3, k4, k5⟩ := bs.cells
  have H_bs := Lib.hid bs; clear bs
  go_wp2_with (fail)
  refine (Scale_any m1 s1 c1 _ H_hs1.out).mono ?_
  rintro e w5 ⟨rfl, f9⟩
  have bs := H_bs.out.fresh f9
  clear H_bs f9
  clear k0 k1 k2 k3 k4 k5
  obtain ⟨k0, k1, k2, k3, k4, k5⟩ := bs.cells
  have H_bs := Lib.hid bs; clear bs
  go_wp2_with (fail)
  refine (setFint_any (g + 4) _ 0 c2 _ (by have := H_hc2.out; omega) H_bs.out.y).mono ?_
  rintro e w6 ⟨rfl, hbs⟩
  obtain ⟨x6, bs⟩ := H_bs.out.setQ hbs
  clear H_bs hbs
  clear k0 k1 k2 k3 k4 k5
  obtain ⟨k0, k1, k2, k3, k4, k5⟩ := bs.cells
  have H_bs := Lib.hid bs; clear bs
  go_wp2_with (fail)
  refine (IsNeg_any m1 s1 c1 _).mono ?_
  rintro e w7 ⟨rfl, f9⟩
  have bs := H_bs.out.fresh f9
  clear H_bs f9
  clear k0 k1 k2 k3 k4 k5
  obtain ⟨k0, k1, k2, k3, k4, k5⟩ := bs.cells
  have H_bs := Lib.hid bs; clear bs
  go_wp2_with (fail)
  refine (Scale_any m2 s2 c2 _ H_hs2.out).mono ?_
  rintro e w8 ⟨rfl, f9⟩
  have bs := H_bs.out.fresh f9
  clear H_bs f9
  clear k0 k1 k2 k3 k4 k5
  obtain ⟨k0, k1, k2, k3, k4, k5⟩ := bs.cells
  have H_bs := Lib.hid bs; clear bs
  go_wp2_with (fail)
  refine (Scale_any m2 s2 c2 _ H_hs2.out).mono ?_
  rintro e w9 ⟨rfl, f9⟩
  have bs := H_bs.out.fresh f9
  clear H_bs f9
  clear k0 k1 k2 k3 k4 k5
  obtain ⟨k0, k1, k2, k3, k4, k5⟩ := bs.cells
  have H_bs := Lib.hid bs; clear bs
  go_wp2_with (fail)
  refine (Scale_any m2 s2 c2 _ H_hs2.out).mono ?_
  rintro e w10 ⟨rfl, f9⟩
  have bs := H_bs.out.fresh f9
  clear H_bs f9
  clear k0 k1 k2 k3 k4 k5
  obtain ⟨k0, k1, k2, k3, k4, k5⟩ := bs.cells
  have H_bs := Lib.hid bs; clear bs
  go_wp2_with (fail)
  refine (H_hlsh.out (g + 3) _ _ (H_hG.out.fresh H_bs.out.f) (H_hP.out.fresh H_bs.out.f) H_bs.out.z).mono ?_
  rintro e w11 ⟨rfl, hbs⟩
  obtain ⟨x11, bs⟩ := H_bs.out.setP hbs
  clear H_bs hbs
  clear k0 k1 k2 k3 k4 k5
  obtain ⟨k0, k1, k2, k3, k4, k5⟩ := bs.cells
  have H_bs := Lib.hid bs; clear bs
  go_wp2_with (fail)
  refine (Scale_any m2 s2 c2 _ H_hs2.out).mono ?_
  rintro e w12 ⟨rfl, f9⟩
  have bs := H_bs.out.fresh f9
  clear H_bs f9
  clear k0 k1 k2 k3 k4 k5
  obtain ⟨k0, k1, k2, k3, k4, k5⟩ := bs.cells
  have H_bs := Lib.hid bs; clear bs
  go_wp2_with (fail)
  refine (IsNeg_any m2 s2 c2 _).mono ?_
  rintro e w13 ⟨rfl, f9⟩
  have bs := H_bs.out.fresh f9
  clear H_bs f9
  clear k0 k1 k2 k3 k4 k5
  obtain ⟨k0, k1, k2, k3, k4, k5⟩ := bs.cells
  have H_bs := Lib.hid bs; clear bs
  have hcmp := bcmp_any (g + 4) (g + 3) _ _ c2 b _ H_hcw2.out H_hbw.out (by omega) H_bs.out.y H_bs.out.z
  rw [← H_hcc.out] at hcmp
  have H_hcmp := Lib.hid hcmp; clear hcmp
  go_wp2_with (fail)
  refine (H_hcmp.out).mono ?_
  rintro e w14 ⟨rfl, qn, rfl⟩
  have bs := H_bs.out.fresh (fresh_drewN _ qn)
  clear H_bs
  generalize w13.drewN qn = w14 at *
  clear k0 k1 k2 k3 k4 k5
  obtain ⟨k0, k1, k2, k3, k4, k5⟩ := bs.cells
  have H_bs := Lib.hid bs; clear bs
  have hsub := subAbs_any (g + 3) (g + 4) b c2 _ _ _ H_hbw.out H_hcw2.out (by omega) H_bs.out.z H_bs.out.y (.inr H_bs.out.od)
  rw [H_t6.out] at hsub
  have H_hsub := Lib.hid hsub; clear hsub
  go_wp2_with (fail)
  refine (H_hsub.out).mono ?_
  rintro e w15 ⟨rfl, hbs⟩
  obtain ⟨x15, bs⟩ := H_bs.out.setP hbs
  clear H_bs hbs
  clear k0 k1 k2 k3 k4 k5
  obtain ⟨k0, k1, k2, k3, k4, k5⟩ := bs.cells
  have H_bs := Lib.hid bs; clear bs
  go_wp2_with (fail)
  refine (H_hnb.out _ _ H_bs.out.f (fun k h => H_bs.out.ov k h) H_bs.out.z).mono ?_
  rintro e w16 ⟨ev, rfl, hev, k9⟩
  have r3 := row_keep H_bs.out.r3 k9 (fun hh => hh.elim (fun h => by omega) (fun h => by have := H_bs.out.ov _ h; omega))
  have fa : Fresh w w16 := H_bs.out.f.trans k9 (fun _ _ h => h) (fun k hk hh => by
    have := H_bs.out.hg
    rcases hh with rfl | hh
    · omega
    · have := H_bs.out.ov k hh; omega)
  have p0 := row_cell r3 0
  have p1 := row_cell r3 1
  have p2 := row_cell r3 2
  simp at p0 p1 p2
  have z0 : w16.frozen? ⟨g + 1 + 1, 0, none⟩ = false := frozen_of_row _ _ _ _ _ r3
  have z1 : w16.frozen? ⟨g + 1 + 1, 1, none⟩ = false := frozen_of_row _ _ _ _ _ r3
  have z2 : w16.frozen? ⟨g + 1 + 1, 2, none⟩ = false := frozen_of_row _ _ _ _ _ r3
  clear k9 k0 k1 k2 k3 k4 k5
  have H_r3 := Lib.hid r3; clear r3
  have H_fa := Lib.hid fa; clear fa
  have H_hev := Lib.hid hev; clear hev
  go_wp2_with (fail)
  refine leaves_cons (f := 102) (args := #[.pointer (some ⟨g + 4, 0, none⟩)]) (by simp) (by simp [go_sem]) ?_
  refine (putBint_idle _ _).mono ?_
  rintro e u' w'' ⟨rfl, rfl, rfl⟩
  refine leaves_cons (f := 102) (args := #[.pointer (some ⟨g + 3, 0, none⟩)]) (by first | (intro h; cases h; done) | simp [settle]) (by simp [go_sem]) ?_
  refine (putBint_idle _ _).mono ?_
  rintro e u2 wf ⟨rfl, rfl, rfl⟩
  refine ⟨_, results_cell_tmp_row rfl _ _ (g + 1 + 1) 50 #[.bool nz, .int .i8 sz, .int .u64 cz] (0, 0) _ rfl (row_set (row_set (row_set H_r3.out))) Tryz.underlying50 rfl (by kernel_rfl), ?_⟩
  exact ⟨ev, rfl, H_hev.out, Fresh.set3 H_fa.out (by have := H_hg.out; omega)⟩

end Go.Proofs.YtjdfapoomjeabaaGreatDoor

/- Sums by whole numbers of any length: a result, or no room. -/
namespace Go.Proofs.YtjdfapoomjeabaaGreatDoor
open Go.RowKit

theorem addBint_law (m1 m2 : Bool) (c1 s1 c2 s2 ms : Nat) (hms : ms ≤ 19) (hs1 : s1 ≤ 19) (hs2 : s2 ≤ 19) (hc1 : c1 ≤ 9999999999999999999) (hc2 : c2 ≤ 9999999999999999999) :
    (¬ okN (zfix m1 c1 * ((10 ^ s2 : Nat) : Int) + zfix m2 c2 * ((10 ^ s1 : Nat) : Int)).natAbs (10 ^ s1 * 10 ^ s2) ms ∧ ∀ w, Glob w → Pow10s w → Calls Tryz.prog 86 #[gd m1 s1 c1, gd m2 s2 c2, .int .i64 ms] w (ClampErr w)) ∨
    ∃ nz sz cz, (∀ w, Glob w → Pow10s w → Calls Tryz.prog 86 #[gd m1 s1 c1, gd m2 s2 c2, .int .i64 ms] w (VRet w (.tuple #[gd nz sz cz, .nilIface]))) ∧ ResOK (zfix m1 c1 * ((10 ^ s2 : Nat) : Int) + zfix m2 c2 * ((10 ^ s1 : Nat) : Int)) (10 ^ s1 * 10 ^ s2) ms nz sz cz := by
  have hd : 0 < 10 ^ s1 * 10 ^ s2 := Nat.mul_pos (Nat.pow_pos (by omega)) (Nat.pow_pos (by omega))
  have hsn := add_sign m1 m2 c1 s1 c2 s2
  have hC := Nat.lt_of_le_of_lt (sumC_le m1 m2 (c1 * 10 ^ (s2 - s1)) (c2 * 10 ^ (s1 - s2))) (sum_lt hc1 hc2 hs1 hs2)
  have hfr := add_frac m1 m2 c1 s1 c2 s2
  refine bint_core _ _ (sumS m1 m2 (c1 * 10 ^ (s2 - s1)) (c2 * 10 ^ (s1 - s2))) (sumC m1 m2 (c1 * 10 ^ (s2 - s1)) (c2 * 10 ^ (s1 - s2))) (max s1 s2) ms _ _ hd hC (by omega) hms hfr hsn.1 hsn.2 ?_
  clear hC hfr hsn
  intro w nz sz cz Pv hG hP hnb
  have z0 : ∀ x y : Nat, x ≤ y → 10 ^ (x - y) = 1 := fun x y h => by rw [show x - y = 0 by omega, Nat.pow_zero]
  rcases Nat.lt_trichotomy s1 s2 with h | h | h
  · rw [z0 s1 s2 (by omega), Nat.mul_one, show max s1 s2 = s2 by omega] at hnb
    by_cases hm : m1 = m2
    · subst hm
      rw [sumS_same, sumC_same] at hnb
      exact addBint_lt_same m1 m1 c1 s1 c2 s2 w hG hP ms hs1 hs2 hc1 hc2 h rfl nz sz cz Pv hnb
    · by_cases hl : (c1 * 10 ^ (s2 - s1)) < c2
      · rw [sumS_less hm hl, sumC_diff hm] at hnb
        exact addBint_lt_less m1 m2 c1 s1 c2 s2 w hG hP ms hs1 hs2 hc1 hc2 h hm hl nz sz cz Pv hnb
      · rw [sumS_more hm hl, sumC_diff hm] at hnb
        exact addBint_lt_more m1 m2 c1 s1 c2 s2 w hG hP ms hs1 hs2 hc1 hc2 h hm hl nz sz cz Pv hnb
  · rw [z0 s1 s2 (by omega), z0 s2 s1 (by omega), Nat.mul_one, Nat.mul_one, show max s1 s2 = s1 by omega] at hnb
    by_cases hm : m1 = m2
    · subst hm
      rw [sumS_same, sumC_same] at hnb
      exact addBint_eq_same m1 m1 c1 s1 c2 s2 w hG hP ms hs1 hs2 hc1 hc2 h rfl nz sz cz Pv hnb
    · by_cases hl : c1 < c2
      · rw [sumS_less hm hl, sumC_diff hm] at hnb
        exact addBint_eq_less m1 m2 c1 s1 c2 s2 w hG hP ms hs1 hs2 hc1 hc2 h hm hl nz sz cz Pv hnb
      · rw [sumS_more hm hl, sumC_diff hm] at hnb
        exact addBint_eq_more m1 m2 c1 s1 c2 s2 w hG hP ms hs1 hs2 hc1 hc2 h hm hl nz sz cz Pv hnb
  · rw [z0 s2 s1 (by omega), Nat.mul_one, show max s1 s2 = s1 by omega] at hnb
    by_cases hm : m1 = m2
    · subst hm
      rw [sumS_same, sumC_same] at hnb
      exact addBint_gt_same m1 m1 c1 s1 c2 s2 w hG hP ms hs1 hs2 hc1 hc2 h rfl nz sz cz Pv hnb
    · by_cases hl : c1 < (c2 * 10 ^ (s1 - s2))
      · rw [sumS_less hm hl, sumC_diff hm] at hnb
        exact addBint_gt_less m1 m2 c1 s1 c2 s2 w hG hP ms hs1 hs2 hc1 hc2 h hm hl nz sz cz Pv hnb
      · rw [sumS_more hm hl, sumC_diff hm] at hnb
        exact addBint_gt_more m1 m2 c1 s1 c2 s2 w hG hP ms hs1 hs2 hc1 hc2 h hm hl nz sz cz Pv hnb

end Go.Proofs.YtjdfapoomjeabaaGreatDoor
