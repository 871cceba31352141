/- govalues: newFromBint, for numbers of up to 60 digits. -/
import Derived.Test.YtjjolcjeiogdmabGreatDoorK28
import Derived.Test.YtjjolcjeiogdmabGreatDoorK34
namespace Go.Proofs.YtjjolcjeiogdmabGreatDoor
open Go.RowKit

set_option maxRecDepth 20000 in
set_option maxHeartbeats 2000000 in
theorem newFromBintL_no (w0 w : World) (neg : Bool) (g C p S ms : Nat) (v : Value) (hG : Glob w0) (hP : Pow10s w0) (hf0 : Fresh w0 w) (_hgl : w0.heap.size ≤ g) (_hvl : ∀ k, v.ownBlock = some k → w0.heap.size ≤ k)
    (hp : IsPrec C p) (hC : C < 10 ^ 80) (hS : S ≤ 41) (hms : ms ≤ 19) (hz : BI w g v C) (hA : 19 + S < p + ms) :
    Calls Tryz.prog 63 #[.bool neg, .pointer (some ⟨g, 0, none⟩), .int .i64 S, .int .i64 ms] w (NBOut w g v false 0 0 AnErr) := by
  have hp40 : p ≤ 80 := hp.lt_iff.1 hC
  have hCw : C < wpow 39 := Nat.lt_trans hC (wpow_ten (by omega))
  have hprec := fun W (h : Fresh w W) => bprec_any g C p v W (hG.fresh (fresh_trans hf0 h)) (hP.fresh (fresh_trans hf0 h)) hp (Nat.lt_of_lt_of_le hC (Nat.pow_le_pow_right (by omega) (by omega))) (hz.fresh h)
  obtain ⟨b, hb⟩ : ∃ b, b = w.heap.size := ⟨_, rfl⟩
  have bx := box1 w #[.bool false, .int .i8 0, .int .u64 0] 40 b hb
  have hw1 : IntKind.i64.wrap ((p : Int) - (S : Int)) = (p : Int) - (S : Int) := by rw [IntKind.wrap_i64]; omega
  have hw2 : IntKind.i64.wrap (19 - (ms : Int)) = 19 - (ms : Int) := by rw [IntKind.wrap_i64]; omega
  have t1 : decide (19 - (ms : Int) < (p : Int) - (S : Int)) = true := decide_eq_true (by omega)
  have t1n : 19 - (ms : Int) < (p : Int) - (S : Int) := by omega
  clear hG hP hf0 hp hC hS hms hA hp40 hCw
  have H_bx := Lib.hid bx; clear bx
  have H_hprec := Lib.hid hprec; clear hprec
  have H_hz := Lib.hid hz; clear hz
  go_enter Tryz.func63, Tryz.ntmps63
  go_wp2_with (fail)
  generalize hwx : w.alloc _ = w1
  rw [← hb]
  obtain ⟨b1, hf⟩ := H_bx.out w1 hwx
  have H_b1 := Lib.hid b1; clear b1
  have H_hf := Lib.hid hf; clear hf
  have H_hwx := Lib.hid hwx; clear hwx
  have H_hb := Lib.hid hb; clear hb
  go_wp2_with (fail)
  refine (H_hprec.out _ H_hf.out).mono ?_
  rintro e w2 ⟨rfl, f2⟩
  have hf2 := fresh_trans H_hf.out f2
  have b2 := row_fresh H_b1.out f2
  have H_f2 := Lib.hid f2; clear f2
  have H_hf2 := Lib.hid hf2; clear hf2
  have H_b2 := Lib.hid b2; clear b2
  clear H_b1
  go_wp2_with (fail)
  refine (overflowError_any _ _ _ _).mono ?_
  rintro e w3 ⟨ae, rfl, f3⟩
  have b3 := row_fresh H_b2.out f3
  have p0 := row_cell b3 0
  have p1 := row_cell b3 1
  have p2 := row_cell b3 2
  simp at p0 p1 p2
  have z0 : w3.frozen? ⟨b, 0, none⟩ = false := frozen_of_row _ _ _ _ _ b3
  have z1 : w3.frozen? ⟨b, 1, none⟩ = false := frozen_of_row _ _ _ _ _ b3
  have z2 : w3.frozen? ⟨b, 2, none⟩ = false := frozen_of_row _ _ _ _ _ b3
  have H_b3 := Lib.hid b3; clear b3
  have H_f3 := Lib.hid f3; clear f3
  go_wp2_with (fail)
  refine bodyPost_ret (results_cell_tmp_row rfl _ _ b 40 #[.bool false, .int .i8 0, .int .u64 0] (0, 0) _ rfl (row_set (row_set (row_set H_b3.out))) Tryz.underlying40 rfl (by kernel_rfl)) rfl ?_
  exact ⟨_, rfl, ⟨ae, rfl⟩, Keep.set3 ((fresh_trans H_hf2.out H_f3.out).trans (Keep.refl (fun _ => False) _) (fun _ _ h => h.elim) (fun _ _ h => h.elim)) (by have := H_hb.out; omega)⟩

set_option maxRecDepth 20000 in
set_option maxHeartbeats 4000000 in
theorem newFromBintL_B (w0 w : World) (neg : Bool) (g C p S ms : Nat) (v : Value) (hG : Glob w0) (hP : Pow10s w0) (hf0 : Fresh w0 w) (hgl : w0.heap.size ≤ g) (hvl : ∀ k, v.ownBlock = some k → w0.heap.size ≤ k)
    (hp : IsPrec C p) (hC : C < 10 ^ 60) (hS : S ≤ 41) (hms : ms ≤ 19) (hz : BI w g v C) (hB : S < ms) (hA : p + ms ≤ 19 + S) (c : Nat) (hcd : c = C * 10 ^ (ms - S)) (hcl : c ≤ 9999999999999999999) :
    Calls Tryz.prog 63 #[.bool neg, .pointer (some ⟨g, 0, none⟩), .int .i64 S, .int .i64 ms] w (NBOut w g v (neg && decide (0 < c)) ms c NoErr) := by
  have hp40 : p ≤ 60 := hp.lt_iff.1 hC
  have hCw : C < wpow 39 := Nat.lt_trans hC (wpow_ten (by omega))
  have hprec := fun W (h : Fresh w W) => bprec_any g C p v W (hG.fresh (fresh_trans hf0 h)) (hP.fresh (fresh_trans hf0 h)) hp (Nat.lt_of_lt_of_le hC (Nat.pow_le_pow_right (by omega) (by omega))) (hz.fresh h)
  obtain ⟨b, hb⟩ : ∃ b, b = w.heap.size := ⟨_, rfl⟩
  have bx := box1 w #[.bool false, .int .i8 0, .int .u64 0] 40 b hb
  have hw1 : IntKind.i64.wrap ((p : Int) - (S : Int)) = (p : Int) - (S : Int) := by rw [IntKind.wrap_i64]; omega
  have hw2 : IntKind.i64.wrap (19 - (ms : Int)) = 19 - (ms : Int) := by rw [IntKind.wrap_i64]; omega
  have t1 : decide (19 - (ms : Int) < (p : Int) - (S : Int)) = false := decide_eq_false (by omega)
  have t1n : ¬ (19 - (ms : Int) < (p : Int) - (S : Int)) := by omega
  have u1 : decide ((S : Int) < (ms : Int)) = true := decide_eq_true (by omega)
  have u1n : S < ms := hB
  have hsub : (ms : Int) - (S : Int) = ((ms - S : Nat) : Int) := by omega
  obtain ⟨j, hj⟩ : ∃ j, j = ms - S := ⟨_, rfl⟩
  rw [← hj] at hsub hcd
  have hjw : IntKind.i64.wrap (j : Int) = (j : Int) := wrap_nat j (by omega)
  have hop := fun W (h : Fresh w W) => lsh_self g v C j W (hG.fresh (fresh_trans hf0 h)) (hP.fresh (fresh_trans hf0 h)) hCw (by omega) (hz.fresh h)
  have hcw : c < wpow 39 := wpow_big (by omega)
  have hpc := fun W u (h : Fresh w0 W) (hu : BI W g u c) => hasPrec20 g c u W (hG.fresh h) (hP.fresh h) hcw hu
  rw [decide_eq_false (show ¬ 10000000000000000000 ≤ c by omega)] at hpc
  have hfi := fun W u (hu : BI W g u c) => bfint_any g c u W (by omega) hu
  have hsafe := fun W => newSafe_any neg ms c W (by omega) hcl
  rw [← hcd] at hop
  clear hG hP hp hC hS hms hA hB hp40 hCw hcw hcd hj
  have H_bx := Lib.hid bx; clear bx
  have H_hprec := Lib.hid hprec; clear hprec
  have H_hz := Lib.hid hz; clear hz
  have H_hpc := Lib.hid hpc; clear hpc
  have H_hf0 := Lib.hid hf0; clear hf0
  have H_hgl := Lib.hid hgl; clear hgl
  have H_hvl := Lib.hid hvl; clear hvl
  have H_hfi := Lib.hid hfi; clear hfi
  have H_hsafe := Lib.hid hsafe; clear hsafe
  have H_hop := Lib.hid hop; clear hop
  have H_hcl := Lib.hid hcl; clear hcl
  go_enter Tryz.func63, Tryz.ntmps63
  go_wp2_with (fail)
  generalize hwx : w.alloc _ = w1
  rw [← hb]
  obtain ⟨b1, hf⟩ := H_bx.out w1 hwx
  have H_b1 := Lib.hid b1; clear b1
  have H_hf := Lib.hid hf; clear hf
  have H_hwx := Lib.hid hwx; clear hwx
  have H_hb := Lib.hid hb; clear hb
  go_wp2_with (fail)
  refine (H_hprec.out _ H_hf.out).mono ?_
  rintro e w2 ⟨rfl, f2⟩
  have hf2 := fresh_trans H_hf.out f2
  have b2 := row_fresh H_b1.out f2
  have H_f2 := Lib.hid f2; clear f2
  have H_hf2 := Lib.hid hf2; clear hf2
  have H_b2 := Lib.hid b2; clear b2
  clear H_b1
  go_wp2_with (fail)
  refine (H_hop.out _ H_hf2.out).mono ?_
  rintro e w3 ⟨rfl, u, z3, k23, o23⟩
  have k3 : Keep (fun k => k = g ∨ v.ownBlock = some k) w w3 := H_hf2.out.trans k23 (fun _ _ h => h.elim) (fun _ _ h => h)
  have f3 : Fresh w0 w3 := H_hf0.out.trans k3 (fun _ _ h => h) (fun k hk h => by
    rcases h with rfl | h
    · have := H_hgl.out; omega
    · have := H_hvl.out k h; omega)
  have hgb : g ≠ b ∧ v.ownBlock ≠ some b := ⟨by have := H_hz.out.lt; have := H_hb.out; omega, fun h => by have := H_hz.out.own_lt h; have := H_hb.out; omega⟩
  have b3 := row_keep H_b2.out k23 (fun h => h.elim (fun h => hgb.1 h.symm) hgb.2)
  have o3 : ∀ k, (u).ownBlock = some k → v.ownBlock = some k ∨ w.heap.size ≤ k := fun k hk => (o23 k hk).elim .inl (fun h => .inr (Nat.le_trans H_hf2.out.size h))
  have hub : (u).ownBlock ≠ some b := fun h => by
    rcases o23 b h with h | h
    · exact hgb.2 h
    · have := H_hb.out; have := H_f2.out.size; have := H_hf.out.size; exact absurd (row_lt H_b2.out) (by omega)
  have H_z3 := Lib.hid z3; clear z3
  have H_k23 := Lib.hid k23; clear k23
  have H_o23 := Lib.hid o23; clear o23
  have H_k3 := Lib.hid k3; clear k3
  have H_f3 := Lib.hid f3; clear f3
  have H_b3 := Lib.hid b3; clear b3
  have H_o3 := Lib.hid o3; clear o3
  have H_hub := Lib.hid hub; clear hub
  have H_hgb := Lib.hid hgb; clear hgb
  go_wp2_with (fail)
  refine (H_hpc.out _ _ H_f3.out H_z3.out).mono ?_
  rintro e w4 ⟨rfl, f4⟩
  have z4 := H_z3.out.fresh f4
  have b4 := row_fresh H_b3.out f4
  have k4 := H_k3.out.trans f4 (fun _ _ h => h) (fun _ _ h => h.elim)
  have f04 := fresh_trans H_f3.out f4
  have H_z4 := Lib.hid z4; clear z4
  have H_b4 := Lib.hid b4; clear b4
  have H_k4 := Lib.hid k4; clear k4
  have H_f4 := Lib.hid f4; clear f4
  have H_f04 := Lib.hid f04; clear f04
  go_wp2_with (fail)
  refine (H_hfi.out _ _ H_z4.out).mono ?_
  rintro e w5 ⟨rfl, e5⟩
  subst w5
  go_wp2_with (fail)
  refine (H_hsafe.out _).mono ?_
  rintro e w6 ⟨rfl, f6⟩
  have b6 := row_fresh H_b4.out f6
  have p0 := row_cell b6 0
  have p1 := row_cell b6 1
  have p2 := row_cell b6 2
  simp at p0 p1 p2
  have z0 : w6.frozen? ⟨b, 0, none⟩ = false := frozen_of_row _ _ _ _ _ b6
  have z1 : w6.frozen? ⟨b, 1, none⟩ = false := frozen_of_row _ _ _ _ _ b6
  have z2 : w6.frozen? ⟨b, 2, none⟩ = false := frozen_of_row _ _ _ _ _ b6
  obtain ⟨bn, hbn⟩ : ∃ b, b = (neg && decide (0 < c)) := ⟨_, rfl⟩
  rw [← hbn]
  have H_b6 := Lib.hid b6; clear b6
  have H_f6 := Lib.hid f6; clear f6
  have H_hbn := Lib.hid hbn; clear hbn
  go_wp2_with (fail)
  refine bodyPost_ret (results_cell_tmp_row rfl _ _ b 40 #[.bool bn, .int .i8 ms, .int .u64 c] (0, 0) _ rfl (row_set (row_set (row_set H_b6.out))) Tryz.underlying40 rfl (by kernel_rfl)) rfl ?_
  exact ⟨_, by rw [← H_hbn.out]; rfl, rfl, Keep.set3 (H_k4.out.trans H_f6.out (fun _ _ h => h) (fun _ _ h => h.elim)) (by have := H_hb.out; omega)⟩

set_option maxRecDepth 20000 in
set_option maxHeartbeats 4000000 in
theorem newFromBintL_C (w0 w : World) (neg : Bool) (g C p S ms : Nat) (v : Value) (hG : Glob w0) (hP : Pow10s w0) (hf0 : Fresh w0 w) (hgl : w0.heap.size ≤ g) (hvl : ∀ k, v.ownBlock = some k → w0.heap.size ≤ k)
    (hp : IsPrec C p) (hC : C < 10 ^ 60) (hS : S ≤ 41) (hms : ms ≤ 19) (hz : BI w g v C) (hB : ms ≤ S) (hA : p + ms ≤ 19 + S) (h1 : p ≤ S) (h2 : 19 < S) (c : Nat) (hcd : c = rhe C (10 ^ (S - 19))) (hcl : c ≤ 9999999999999999999) :
    Calls Tryz.prog 63 #[.bool neg, .pointer (some ⟨g, 0, none⟩), .int .i64 S, .int .i64 ms] w (NBOut w g v (neg && decide (0 < c)) 19 c NoErr) := by
  have hp40 : p ≤ 60 := hp.lt_iff.1 hC
  have hCw : C < wpow 39 := Nat.lt_trans hC (wpow_ten (by omega))
  have hprec := fun W (h : Fresh w W) => bprec_any g C p v W (hG.fresh (fresh_trans hf0 h)) (hP.fresh (fresh_trans hf0 h)) hp (Nat.lt_of_lt_of_le hC (Nat.pow_le_pow_right (by omega) (by omega))) (hz.fresh h)
  obtain ⟨b, hb⟩ : ∃ b, b = w.heap.size := ⟨_, rfl⟩
  have bx := box1 w #[.bool false, .int .i8 0, .int .u64 0] 40 b hb
  have hw1 : IntKind.i64.wrap ((p : Int) - (S : Int)) = (p : Int) - (S : Int) := by rw [IntKind.wrap_i64]; omega
  have hw2 : IntKind.i64.wrap (19 - (ms : Int)) = 19 - (ms : Int) := by rw [IntKind.wrap_i64]; omega
  have t1 : decide (19 - (ms : Int) < (p : Int) - (S : Int)) = false := decide_eq_false (by omega)
  have t1n : ¬ (19 - (ms : Int) < (p : Int) - (S : Int)) := by omega
  have u1 : decide ((S : Int) < (ms : Int)) = false := decide_eq_false (by omega)
  have u1n : ¬ S < ms := by omega
  have u2 : decide ((p : Int) ≤ (S : Int)) = true := decide_eq_true (by omega)
  have u2n : p ≤ S := h1
  have u3 : decide (19 < (S : Int)) = true := decide_eq_true (by omega)
  have hsub : (S : Int) - 19 = ((S - 19 : Nat) : Int) := by omega
  obtain ⟨j, hj⟩ : ∃ j, j = S - 19 := ⟨_, rfl⟩
  rw [← hj] at hsub hcd
  have hjw : IntKind.i64.wrap (j : Int) = (j : Int) := wrap_nat j (by omega)
  have hop := fun W (h : Fresh w W) => brsh_all w0 W g C j v hG hP (fresh_trans hf0 h) hgl hvl hCw (by omega) (by omega) (hz.fresh h)
  have hcw : c < wpow 39 := wpow_big (by omega)
  have hpc := fun W u (h : Fresh w0 W) (hu : BI W g u c) => hasPrec20 g c u W (hG.fresh h) (hP.fresh h) hcw hu
  rw [decide_eq_false (show ¬ 10000000000000000000 ≤ c by omega)] at hpc
  have hfi := fun W u (hu : BI W g u c) => bfint_any g c u W (by omega) hu
  have hsafe := fun W => newSafe_any neg 19 c W (by omega) hcl
  rw [← hcd] at hop
  clear hG hP hp hC hS hms hA hB hp40 hCw hcw h1 h2 hcd hj
  have H_bx := Lib.hid bx; clear bx
  have H_hprec := Lib.hid hprec; clear hprec
  have H_hz := Lib.hid hz; clear hz
  have H_hpc := Lib.hid hpc; clear hpc
  have H_hf0 := Lib.hid hf0; clear hf0
  have H_hgl := Lib.hid hgl; clear hgl
  have H_hvl := Lib.hid hvl; clear hvl
  have H_hfi := Lib.hid hfi; clear hfi
  have H_hsafe := Lib.hid hsafe; clear hsafe
  have H_hop := Lib.hid hop; clear hop
  have H_hcl := Lib.hid hcl; clear hcl
  go_enter Tryz.func63, Tryz.ntmps63
  go_wp2_with (fail)
  generalize hwx : w.alloc _ = w1
  rw [← hb]
  obtain ⟨b1, hf⟩ := H_bx.out w1 hwx
  have H_b1 := Lib.hid b1; clear b1
  have H_hf := Lib.hid hf; clear hf
  have H_hwx := Lib.hid hwx; clear hwx
  have H_hb := Lib.hid hb; clear hb
  go_wp2_with (fail)
  refine (H_hprec.out _ H_hf.out).mono ?_
  rintro e w2 ⟨rfl, f2⟩
  have hf2 := fresh_trans H_hf.out f2
  have b2 := row_fresh H_b1.out f2
  have H_f2 := Lib.hid f2; clear f2
  have H_hf2 := Lib.hid hf2; clear hf2
  have H_b2 := Lib.hid b2; clear b2
  clear H_b1
  go_wp2_with (fail)
  refine (H_hop.out _ H_hf2.out).mono ?_
  rintro e w3 ⟨rfl, u, z3, k23, o23⟩
  have k3 : Keep (fun k => k = g ∨ v.ownBlock = some k) w w3 := H_hf2.out.trans k23 (fun _ _ h => h.elim) (fun _ _ h => h)
  have f3 : Fresh w0 w3 := H_hf0.out.trans k3 (fun _ _ h => h) (fun k hk h => by
    rcases h with rfl | h
    · have := H_hgl.out; omega
    · have := H_hvl.out k h; omega)
  have hgb : g ≠ b ∧ v.ownBlock ≠ some b := ⟨by have := H_hz.out.lt; have := H_hb.out; omega, fun h => by have := H_hz.out.own_lt h; have := H_hb.out; omega⟩
  have b3 := row_keep H_b2.out k23 (fun h => h.elim (fun h => hgb.1 h.symm) hgb.2)
  have o3 : ∀ k, (u).ownBlock = some k → v.ownBlock = some k ∨ w.heap.size ≤ k := fun k hk => (o23 k hk).elim .inl (fun h => .inr (Nat.le_trans H_hf2.out.size h))
  have hub : (u).ownBlock ≠ some b := fun h => by
    rcases o23 b h with h | h
    · exact hgb.2 h
    · have := H_hb.out; have := H_f2.out.size; have := H_hf.out.size; exact absurd (row_lt H_b2.out) (by omega)
  have H_z3 := Lib.hid z3; clear z3
  have H_k23 := Lib.hid k23; clear k23
  have H_o23 := Lib.hid o23; clear o23
  have H_k3 := Lib.hid k3; clear k3
  have H_f3 := Lib.hid f3; clear f3
  have H_b3 := Lib.hid b3; clear b3
  have H_o3 := Lib.hid o3; clear o3
  have H_hub := Lib.hid hub; clear hub
  have H_hgb := Lib.hid hgb; clear hgb
  go_wp2_with (fail)
  refine (H_hpc.out _ _ H_f3.out H_z3.out).mono ?_
  rintro e w4 ⟨rfl, f4⟩
  have z4 := H_z3.out.fresh f4
  have b4 := row_fresh H_b3.out f4
  have k4 := H_k3.out.trans f4 (fun _ _ h => h) (fun _ _ h => h.elim)
  have f04 := fresh_trans H_f3.out f4
  have H_z4 := Lib.hid z4; clear z4
  have H_b4 := Lib.hid b4; clear b4
  have H_k4 := Lib.hid k4; clear k4
  have H_f4 := Lib.hid f4; clear f4
  have H_f04 := Lib.hid f04; clear f04
  go_wp2_with (fail)
  refine (H_hfi.out _ _ H_z4.out).mono ?_
  rintro e w5 ⟨rfl, e5⟩
  subst w5
  go_wp2_with (fail)
  refine (H_hsafe.out _).mono ?_
  rintro e w6 ⟨rfl, f6⟩
  have b6 := row_fresh H_b4.out f6
  have p0 := row_cell b6 0
  have p1 := row_cell b6 1
  have p2 := row_cell b6 2
  simp at p0 p1 p2
  have z0 : w6.frozen? ⟨b, 0, none⟩ = false := frozen_of_row _ _ _ _ _ b6
  have z1 : w6.frozen? ⟨b, 1, none⟩ = false := frozen_of_row _ _ _ _ _ b6
  have z2 : w6.frozen? ⟨b, 2, none⟩ = false := frozen_of_row _ _ _ _ _ b6
  obtain ⟨bn, hbn⟩ : ∃ b, b = (neg && decide (0 < c)) := ⟨_, rfl⟩
  rw [← hbn]
  have H_b6 := Lib.hid b6; clear b6
  have H_f6 := Lib.hid f6; clear f6
  have H_hbn := Lib.hid hbn; clear hbn
  go_wp2_with (fail)
  refine bodyPost_ret (results_cell_tmp_row rfl _ _ b 40 #[.bool bn, .int .i8 19, .int .u64 c] (0, 0) _ rfl (row_set (row_set (row_set H_b6.out))) Tryz.underlying40 rfl (by kernel_rfl)) rfl ?_
  exact ⟨_, by rw [← H_hbn.out]; rfl, rfl, Keep.set3 (H_k4.out.trans H_f6.out (fun _ _ h => h) (fun _ _ h => h.elim)) (by have := H_hb.out; omega)⟩

set_option maxRecDepth 20000 in
set_option maxHeartbeats 4000000 in
theorem newFromBintL_D (w0 w : World) (neg : Bool) (g C p S ms : Nat) (v : Value) (hG : Glob w0) (hP : Pow10s w0) (hf0 : Fresh w0 w) (hgl : w0.heap.size ≤ g) (hvl : ∀ k, v.ownBlock = some k → w0.heap.size ≤ k)
    (hp : IsPrec C p) (hC : C < 10 ^ 60) (hS : S ≤ 41) (hms : ms ≤ 19) (hz : BI w g v C) (hB : ms ≤ S) (hA : p + ms ≤ 19 + S) (h1 : S < p) (h2 : 19 < p) (h3 : p ≤ 60) (c : Nat) (hcd : c = rhe C (10 ^ (p - 19))) (hcl : c ≤ 9999999999999999999) :
    Calls Tryz.prog 63 #[.bool neg, .pointer (some ⟨g, 0, none⟩), .int .i64 S, .int .i64 ms] w (NBOut w g v (neg && decide (0 < c)) (19 + S - p) c NoErr) := by
  have hp40 : p ≤ 60 := hp.lt_iff.1 hC
  have hCw : C < wpow 39 := Nat.lt_trans hC (wpow_ten (by omega))
  have hprec := fun W (h : Fresh w W) => bprec_any g C p v W (hG.fresh (fresh_trans hf0 h)) (hP.fresh (fresh_trans hf0 h)) hp (Nat.lt_of_lt_of_le hC (Nat.pow_le_pow_right (by omega) (by omega))) (hz.fresh h)
  obtain ⟨b, hb⟩ : ∃ b, b = w.heap.size := ⟨_, rfl⟩
  have bx := box1 w #[.bool false, .int .i8 0, .int .u64 0] 40 b hb
  have hw1 : IntKind.i64.wrap ((p : Int) - (S : Int)) = (p : Int) - (S : Int) := by rw [IntKind.wrap_i64]; omega
  have hw2 : IntKind.i64.wrap (19 - (ms : Int)) = 19 - (ms : Int) := by rw [IntKind.wrap_i64]; omega
  have t1 : decide (19 - (ms : Int) < (p : Int) - (S : Int)) = false := decide_eq_false (by omega)
  have t1n : ¬ (19 - (ms : Int) < (p : Int) - (S : Int)) := by omega
  have u1 : decide ((S : Int) < (ms : Int)) = false := decide_eq_false (by omega)
  have u1n : ¬ S < ms := by omega
  have u2 : decide ((p : Int) ≤ (S : Int)) = false := decide_eq_false (by omega)
  have u2n : ¬ p ≤ S := by omega
  have u3 : decide ((S : Int) < (p : Int)) = true := decide_eq_true (by omega)
  have u3n : S < p := h1
  have u4 : decide (19 < (p : Int)) = true := decide_eq_true (by omega)
  have hsub : (p : Int) - 19 = ((p - 19 : Nat) : Int) := by omega
  obtain ⟨j, hj⟩ : ∃ j, j = p - 19 := ⟨_, rfl⟩
  rw [← hj] at hsub hcd
  have hjw : IntKind.i64.wrap (j : Int) = (j : Int) := wrap_nat j (by omega)
  have hop := fun W (h : Fresh w W) => brsh_all w0 W g C j v hG hP (fresh_trans hf0 h) hgl hvl hCw (by omega) (by omega) (hz.fresh h)
  have hw3 : IntKind.i64.wrap (19 - (p : Int)) = 19 - (p : Int) := by rw [IntKind.wrap_i64]; omega
  have hsD : (19 - (p : Int)) + (S : Int) = ((19 + S - p : Nat) : Int) := by omega
  obtain ⟨s, hs⟩ : ∃ s, s = 19 + S - p := ⟨_, rfl⟩
  rw [← hs] at hsD ⊢
  have hs19 : s ≤ 19 := by omega
  have hw4 : IntKind.i64.wrap (s : Int) = (s : Int) := wrap_nat s (by omega)
  have hcw : c < wpow 39 := wpow_big (by omega)
  have hpc := fun W u (h : Fresh w0 W) (hu : BI W g u c) => hasPrec20 g c u W (hG.fresh h) (hP.fresh h) hcw hu
  rw [decide_eq_false (show ¬ 10000000000000000000 ≤ c by omega)] at hpc
  have hfi := fun W u (hu : BI W g u c) => bfint_any g c u W (by omega) hu
  have hsafe := fun W => newSafe_any neg s c W (by omega) hcl
  rw [← hcd] at hop
  clear hG hP hp hC hS hms hA hB hp40 hCw hcw h1 h2 h3 hcd hj hs19 hs
  have H_bx := Lib.hid bx; clear bx
  have H_hprec := Lib.hid hprec; clear hprec
  have H_hz := Lib.hid hz; clear hz
  have H_hpc := Lib.hid hpc; clear hpc
  have H_hf0 := Lib.hid hf0; clear hf0
  have H_hgl := Lib.hid hgl; clear hgl
  have H_hvl := Lib.hid hvl; clear hvl
  have H_hfi := Lib.hid hfi; clear hfi
  have H_hsafe := Lib.hid hsafe; clear hsafe
  have H_hop := Lib.hid hop; clear hop
  have H_hcl := Lib.hid hcl; clear hcl
  go_enter Tryz.func63, Tryz.ntmps63
  go_wp2_with (fail)
  generalize hwx : w.alloc _ = w1
  rw [← hb]
  obtain ⟨b1, hf⟩ := H_bx.out w1 hwx
  have H_b1 := Lib.hid b1; clear b1
  have H_hf := Lib.hid hf; clear hf
  have H_hwx := Lib.hid hwx; clear hwx
  have H_hb := Lib.hid hb; clear hb
  go_wp2_with (fail)
  refine (H_hprec.out _ H_hf.out).mono ?_
  rintro e w2 ⟨rfl, f2⟩
  have hf2 := fresh_trans H_hf.out f2
  have b2 := row_fresh H_b1.out f2
  have H_f2 := Lib.hid f2; clear f2
  have H_hf2 := Lib.hid hf2; clear hf2
  have H_b2 := Lib.hid b2; clear b2
  clear H_b1
  go_wp2_with (fail)
  refine (H_hop.out _ H_hf2.out).mono ?_
  rintro e w3 ⟨rfl, u, z3, k23, o23⟩
  have k3 : Keep (fun k => k = g ∨ v.ownBlock = some k) w w3 := H_hf2.out.trans k23 (fun _ _ h => h.elim) (fun _ _ h => h)
  have f3 : Fresh w0 w3 := H_hf0.out.trans k3 (fun _ _ h => h) (fun k hk h => by
    rcases h with rfl | h
    · have := H_hgl.out; omega
    · have := H_hvl.out k h; omega)
  have hgb : g ≠ b ∧ v.ownBlock ≠ some b := ⟨by have := H_hz.out.lt; have := H_hb.out; omega, fun h => by have := H_hz.out.own_lt h; have := H_hb.out; omega⟩
  have b3 := row_keep H_b2.out k23 (fun h => h.elim (fun h => hgb.1 h.symm) hgb.2)
  have o3 : ∀ k, (u).ownBlock = some k → v.ownBlock = some k ∨ w.heap.size ≤ k := fun k hk => (o23 k hk).elim .inl (fun h => .inr (Nat.le_trans H_hf2.out.size h))
  have hub : (u).ownBlock ≠ some b := fun h => by
    rcases o23 b h with h | h
    · exact hgb.2 h
    · have := H_hb.out; have := H_f2.out.size; have := H_hf.out.size; exact absurd (row_lt H_b2.out) (by omega)
  have H_z3 := Lib.hid z3; clear z3
  have H_k23 := Lib.hid k23; clear k23
  have H_o23 := Lib.hid o23; clear o23
  have H_k3 := Lib.hid k3; clear k3
  have H_f3 := Lib.hid f3; clear f3
  have H_b3 := Lib.hid b3; clear b3
  have H_o3 := Lib.hid o3; clear o3
  have H_hub := Lib.hid hub; clear hub
  have H_hgb := Lib.hid hgb; clear hgb
  go_wp2_with (fail)
  refine (H_hpc.out _ _ H_f3.out H_z3.out).mono ?_
  rintro e w4 ⟨rfl, f4⟩
  have z4 := H_z3.out.fresh f4
  have b4 := row_fresh H_b3.out f4
  have k4 := H_k3.out.trans f4 (fun _ _ h => h) (fun _ _ h => h.elim)
  have f04 := fresh_trans H_f3.out f4
  have H_z4 := Lib.hid z4; clear z4
  have H_b4 := Lib.hid b4; clear b4
  have H_k4 := Lib.hid k4; clear k4
  have H_f4 := Lib.hid f4; clear f4
  have H_f04 := Lib.hid f04; clear f04
  go_wp2_with (fail)
  refine (H_hfi.out _ _ H_z4.out).mono ?_
  rintro e w5 ⟨rfl, e5⟩
  subst w5
  go_wp2_with (fail)
  refine (H_hsafe.out _).mono ?_
  rintro e w6 ⟨rfl, f6⟩
  have b6 := row_fresh H_b4.out f6
  have p0 := row_cell b6 0
  have p1 := row_cell b6 1
  have p2 := row_cell b6 2
  simp at p0 p1 p2
  have z0 : w6.frozen? ⟨b, 0, none⟩ = false := frozen_of_row _ _ _ _ _ b6
  have z1 : w6.frozen? ⟨b, 1, none⟩ = false := frozen_of_row _ _ _ _ _ b6
  have z2 : w6.frozen? ⟨b, 2, none⟩ = false := frozen_of_row _ _ _ _ _ b6
  obtain ⟨bn, hbn⟩ : ∃ b, b = (neg && decide (0 < c)) := ⟨_, rfl⟩
  rw [← hbn]
  have H_b6 := Lib.hid b6; clear b6
  have H_f6 := Lib.hid f6; clear f6
  have H_hbn := Lib.hid hbn; clear hbn
  go_wp2_with (fail)
  refine bodyPost_ret (results_cell_tmp_row rfl _ _ b 40 #[.bool bn, .int .i8 s, .int .u64 c] (0, 0) _ rfl (row_set (row_set (row_set H_b6.out))) Tryz.underlying40 rfl (by kernel_rfl)) rfl ?_
  exact ⟨_, by rw [← H_hbn.out]; rfl, rfl, Keep.set3 (H_k4.out.trans H_f6.out (fun _ _ h => h) (fun _ _ h => h.elim)) (by have := H_hb.out; omega)⟩

set_option maxRecDepth 20000 in
set_option maxHeartbeats 4000000 in
theorem newFromBintL_E (w0 w : World) (neg : Bool) (g C p S ms : Nat) (v : Value) (hG : Glob w0) (hP : Pow10s w0) (hf0 : Fresh w0 w) (hgl : w0.heap.size ≤ g) (hvl : ∀ k, v.ownBlock = some k → w0.heap.size ≤ k)
    (hp : IsPrec C p) (hC : C < 10 ^ 60) (hS : S ≤ 41) (hms : ms ≤ 19) (hz : BI w g v C) (hB : ms ≤ S) (hA : p + ms ≤ 19 + S) (h1 : S ≤ 19) (h2 : p ≤ 19) (hcl : C ≤ 9999999999999999999) :
    Calls Tryz.prog 63 #[.bool neg, .pointer (some ⟨g, 0, none⟩), .int .i64 S, .int .i64 ms] w (NBOut w g v (neg && decide (0 < C)) S C NoErr) := by
  have hp40 : p ≤ 60 := hp.lt_iff.1 hC
  have hCw : C < wpow 39 := Nat.lt_trans hC (wpow_ten (by omega))
  have hprec := fun W (h : Fresh w W) => bprec_any g C p v W (hG.fresh (fresh_trans hf0 h)) (hP.fresh (fresh_trans hf0 h)) hp (Nat.lt_of_lt_of_le hC (Nat.pow_le_pow_right (by omega) (by omega))) (hz.fresh h)
  obtain ⟨b, hb⟩ : ∃ b, b = w.heap.size := ⟨_, rfl⟩
  have bx := box1 w #[.bool false, .int .i8 0, .int .u64 0] 40 b hb
  have hw1 : IntKind.i64.wrap ((p : Int) - (S : Int)) = (p : Int) - (S : Int) := by rw [IntKind.wrap_i64]; omega
  have hw2 : IntKind.i64.wrap (19 - (ms : Int)) = 19 - (ms : Int) := by rw [IntKind.wrap_i64]; omega
  have t1 : decide (19 - (ms : Int) < (p : Int) - (S : Int)) = false := decide_eq_false (by omega)
  have t1n : ¬ (19 - (ms : Int) < (p : Int) - (S : Int)) := by omega
  have u1 : decide ((S : Int) < (ms : Int)) = false := decide_eq_false (by omega)
  have u1n : ¬ S < ms := by omega
  have hcw : C < wpow 39 := wpow_big (by omega)
  have hpc := fun W u (h : Fresh w0 W) (hu : BI W g u C) => hasPrec20 g C u W (hG.fresh h) (hP.fresh h) hcw hu
  rw [decide_eq_false (show ¬ 10000000000000000000 ≤ C by omega)] at hpc
  have hfi := fun W u (hu : BI W g u C) => bfint_any g C u W (by omega) hu
  have hsafe := fun W => newSafe_any neg S C W (by omega) hcl
  have hE : (decide ((p : Int) ≤ (S : Int)) = true ∧ p ≤ S ∧ decide (19 < (S : Int)) = false ∧ decide ((S : Int) < (p : Int)) = false ∧ ¬ S < p) ∨ (decide ((p : Int) ≤ (S : Int)) = false ∧ ¬ p ≤ S ∧ decide ((S : Int) < (p : Int)) = true ∧ S < p ∧ decide (19 < (p : Int)) = false) := by
    rcases Nat.lt_or_ge S p with h | h
    · exact .inr ⟨decide_eq_false (by omega), by omega, decide_eq_true (by omega), h, decide_eq_false (by omega)⟩
    · exact .inl ⟨decide_eq_true (by omega), h, decide_eq_false (by omega), decide_eq_false (by omega), by omega⟩
  clear hG hP hp hC hS hms hA hB hp40 hCw hcw h1 h2
  have H_bx := Lib.hid bx; clear bx
  have H_hprec := Lib.hid hprec; clear hprec
  have H_hz := Lib.hid hz; clear hz
  have H_hpc := Lib.hid hpc; clear hpc
  have H_hf0 := Lib.hid hf0; clear hf0
  have H_hgl := Lib.hid hgl; clear hgl
  have H_hvl := Lib.hid hvl; clear hvl
  have H_hfi := Lib.hid hfi; clear hfi
  have H_hsafe := Lib.hid hsafe; clear hsafe
  have H_hcl := Lib.hid hcl; clear hcl
  go_enter Tryz.func63, Tryz.ntmps63
  go_wp2_with (fail)
  generalize hwx : w.alloc _ = w1
  rw [← hb]
  obtain ⟨b1, hf⟩ := H_bx.out w1 hwx
  have H_b1 := Lib.hid b1; clear b1
  have H_hf := Lib.hid hf; clear hf
  have H_hwx := Lib.hid hwx; clear hwx
  have H_hb := Lib.hid hb; clear hb
  go_wp2_with (fail)
  refine (H_hprec.out _ H_hf.out).mono ?_
  rintro e w2 ⟨rfl, f2⟩
  have hf2 := fresh_trans H_hf.out f2
  have b2 := row_fresh H_b1.out f2
  have H_f2 := Lib.hid f2; clear f2
  have H_hf2 := Lib.hid hf2; clear hf2
  have H_b2 := Lib.hid b2; clear b2
  clear H_b1
  have z3 := H_hz.out.fresh H_hf2.out
  have k23 : Keep (fun k => k = g ∨ v.ownBlock = some k) w2 w2 := Keep.refl _ _
  have o23 : ∀ k, v.ownBlock = some k → v.ownBlock = some k ∨ w2.heap.size ≤ k := fun _ h => .inl h
  have k3 : Keep (fun k => k = g ∨ v.ownBlock = some k) w w2 := H_hf2.out.trans k23 (fun _ _ h => h.elim) (fun _ _ h => h)
  have f3 : Fresh w0 w2 := H_hf0.out.trans k3 (fun _ _ h => h) (fun k hk h => by
    rcases h with rfl | h
    · have := H_hgl.out; omega
    · have := H_hvl.out k h; omega)
  have hgb : g ≠ b ∧ v.ownBlock ≠ some b := ⟨by have := H_hz.out.lt; have := H_hb.out; omega, fun h => by have := H_hz.out.own_lt h; have := H_hb.out; omega⟩
  have b3 := row_keep H_b2.out k23 (fun h => h.elim (fun h => hgb.1 h.symm) hgb.2)
  have o3 : ∀ k, (v).ownBlock = some k → v.ownBlock = some k ∨ w.heap.size ≤ k := fun k hk => (o23 k hk).elim .inl (fun h => .inr (Nat.le_trans H_hf2.out.size h))
  have hub : (v).ownBlock ≠ some b := fun h => by
    rcases o23 b h with h | h
    · exact hgb.2 h
    · have := H_hb.out; have := H_f2.out.size; have := H_hf.out.size; exact absurd (row_lt H_b2.out) (by omega)
  have H_z3 := Lib.hid z3; clear z3
  have H_k23 := Lib.hid k23; clear k23
  have H_o23 := Lib.hid o23; clear o23
  have H_k3 := Lib.hid k3; clear k3
  have H_f3 := Lib.hid f3; clear f3
  have H_b3 := Lib.hid b3; clear b3
  have H_o3 := Lib.hid o3; clear o3
  have H_hub := Lib.hid hub; clear hub
  have H_hgb := Lib.hid hgb; clear hgb
  rcases hE with ⟨q1, q2, q3, q4, q5⟩ | ⟨q1, q2, q3, q4, q5⟩
  · go_wp2_with (fail)
    refine (H_hpc.out _ _ H_f3.out H_z3.out).mono ?_
    rintro e w4 ⟨rfl, f4⟩
    have z4 := H_z3.out.fresh f4
    have b4 := row_fresh H_b3.out f4
    have k4 := H_k3.out.trans f4 (fun _ _ h => h) (fun _ _ h => h.elim)
    have f04 := fresh_trans H_f3.out f4
    have H_z4 := Lib.hid z4; clear z4
    have H_b4 := Lib.hid b4; clear b4
    have H_k4 := Lib.hid k4; clear k4
    have H_f4 := Lib.hid f4; clear f4
    have H_f04 := Lib.hid f04; clear f04
    go_wp2_with (fail)
    refine (H_hfi.out _ _ H_z4.out).mono ?_
    rintro e w5 ⟨rfl, e5⟩
    subst w5
    go_wp2_with (fail)
    refine (H_hsafe.out _).mono ?_
    rintro e w6 ⟨rfl, f6⟩
    have b6 := row_fresh H_b4.out f6
    have p0 := row_cell b6 0
    have p1 := row_cell b6 1
    have p2 := row_cell b6 2
    simp at p0 p1 p2
    have z0 : w6.frozen? ⟨b, 0, none⟩ = false := frozen_of_row _ _ _ _ _ b6
    have z1 : w6.frozen? ⟨b, 1, none⟩ = false := frozen_of_row _ _ _ _ _ b6
    have z2 : w6.frozen? ⟨b, 2, none⟩ = false := frozen_of_row _ _ _ _ _ b6
    obtain ⟨bn, hbn⟩ : ∃ b, b = (neg && decide (0 < C)) := ⟨_, rfl⟩
    rw [← hbn]
    have H_b6 := Lib.hid b6; clear b6
    have H_f6 := Lib.hid f6; clear f6
    have H_hbn := Lib.hid hbn; clear hbn
    go_wp2_with (fail)
    refine bodyPost_ret (results_cell_tmp_row rfl _ _ b 40 #[.bool bn, .int .i8 S, .int .u64 C] (0, 0) _ rfl (row_set (row_set (row_set H_b6.out))) Tryz.underlying40 rfl (by kernel_rfl)) rfl ?_
    exact ⟨_, by rw [← H_hbn.out]; rfl, rfl, Keep.set3 (H_k4.out.trans H_f6.out (fun _ _ h => h) (fun _ _ h => h.elim)) (by have := H_hb.out; omega)⟩
  · go_wp2_with (fail)
    refine (H_hpc.out _ _ H_f3.out H_z3.out).mono ?_
    rintro e w4 ⟨rfl, f4⟩
    have z4 := H_z3.out.fresh f4
    have b4 := row_fresh H_b3.out f4
    have k4 := H_k3.out.trans f4 (fun _ _ h => h) (fun _ _ h => h.elim)
    have f04 := fresh_trans H_f3.out f4
    have H_z4 := Lib.hid z4; clear z4
    have H_b4 := Lib.hid b4; clear b4
    have H_k4 := Lib.hid k4; clear k4
    have H_f4 := Lib.hid f4; clear f4
    have H_f04 := Lib.hid f04; clear f04
    go_wp2_with (fail)
    refine (H_hfi.out _ _ H_z4.out).mono ?_
    rintro e w5 ⟨rfl, e5⟩
    subst w5
    go_wp2_with (fail)
    refine (H_hsafe.out _).mono ?_
    rintro e w6 ⟨rfl, f6⟩
    have b6 := row_fresh H_b4.out f6
    have p0 := row_cell b6 0
    have p1 := row_cell b6 1
    have p2 := row_cell b6 2
    simp at p0 p1 p2
    have z0 : w6.frozen? ⟨b, 0, none⟩ = false := frozen_of_row _ _ _ _ _ b6
    have z1 : w6.frozen? ⟨b, 1, none⟩ = false := frozen_of_row _ _ _ _ _ b6
    have z2 : w6.frozen? ⟨b, 2, none⟩ = false := frozen_of_row _ _ _ _ _ b6
    obtain ⟨bn, hbn⟩ : ∃ b, b = (neg && decide (0 < C)) := ⟨_, rfl⟩
    rw [← hbn]
    have H_b6 := Lib.hid b6; clear b6
    have H_f6 := Lib.hid f6; clear f6
    have H_hbn := Lib.hid hbn; clear hbn
    go_wp2_with (fail)
    refine bodyPost_ret (results_cell_tmp_row rfl _ _ b 40 #[.bool bn, .int .i8 S, .int .u64 C] (0, 0) _ rfl (row_set (row_set (row_set H_b6.out))) Tryz.underlying40 rfl (by kernel_rfl)) rfl ?_
    exact ⟨_, by rw [← H_hbn.out]; rfl, rfl, Keep.set3 (H_k4.out.trans H_f6.out (fun _ _ h => h) (fun _ _ h => h.elim)) (by have := H_hb.out; omega)⟩

set_option maxRecDepth 20000 in
set_option maxHeartbeats 4000000 in
theorem newFromBintL_C2 (w0 w : World) (neg : Bool) (g C p S ms : Nat) (v : Value) (hG : Glob w0) (hP : Pow10s w0) (hf0 : Fresh w0 w) (hgl : w0.heap.size ≤ g) (hvl : ∀ k, v.ownBlock = some k → w0.heap.size ≤ k)
    (hp : IsPrec C p) (hC : C < 10 ^ 60) (hS : S ≤ 41) (hms : ms ≤ 19) (hz : BI w g v C) (hB : ms ≤ S) (hA : p + ms ≤ 19 + S) (h1 : p ≤ S) (h2 : 19 < S) (c : Nat) (hcd : c = rhe C (10 ^ (S - 19))) (hcl : c = 10000000000000000000) (nz : Bool) (sz cz : Nat) (Pv : Value → Prop)
    (hrec : ∀ W u, Fresh w0 W → (∀ k, u.ownBlock = some k → w0.heap.size ≤ k) → BI W g u c → Calls Tryz.prog 63 #[.bool neg, .pointer (some ⟨g, 0, none⟩), .int .i64 (19 : Nat), .int .i64 ms] W (NBOut W g u nz sz cz Pv)) :
    Calls Tryz.prog 63 #[.bool neg, .pointer (some ⟨g, 0, none⟩), .int .i64 S, .int .i64 ms] w (NBOut w g v nz sz cz Pv) := by
  have hp40 : p ≤ 60 := hp.lt_iff.1 hC
  have hCw : C < wpow 39 := Nat.lt_trans hC (wpow_ten (by omega))
  have hprec := fun W (h : Fresh w W) => bprec_any g C p v W (hG.fresh (fresh_trans hf0 h)) (hP.fresh (fresh_trans hf0 h)) hp (Nat.lt_of_lt_of_le hC (Nat.pow_le_pow_right (by omega) (by omega))) (hz.fresh h)
  obtain ⟨b, hb⟩ : ∃ b, b = w.heap.size := ⟨_, rfl⟩
  have bx := box1 w #[.bool false, .int .i8 0, .int .u64 0] 40 b hb
  have hw1 : IntKind.i64.wrap ((p : Int) - (S : Int)) = (p : Int) - (S : Int) := by rw [IntKind.wrap_i64]; omega
  have hw2 : IntKind.i64.wrap (19 - (ms : Int)) = 19 - (ms : Int) := by rw [IntKind.wrap_i64]; omega
  have t1 : decide (19 - (ms : Int) < (p : Int) - (S : Int)) = false := decide_eq_false (by omega)
  have t1n : ¬ (19 - (ms : Int) < (p : Int) - (S : Int)) := by omega
  have u1 : decide ((S : Int) < (ms : Int)) = false := decide_eq_false (by omega)
  have u1n : ¬ S < ms := by omega
  have u2 : decide ((p : Int) ≤ (S : Int)) = true := decide_eq_true (by omega)
  have u2n : p ≤ S := h1
  have u3 : decide (19 < (S : Int)) = true := decide_eq_true (by omega)
  have hsub : (S : Int) - 19 = ((S - 19 : Nat) : Int) := by omega
  obtain ⟨j, hj⟩ : ∃ j, j = S - 19 := ⟨_, rfl⟩
  rw [← hj] at hsub hcd
  have hjw : IntKind.i64.wrap (j : Int) = (j : Int) := wrap_nat j (by omega)
  have hop := fun W (h : Fresh w W) => brsh_all w0 W g C j v hG hP (fresh_trans hf0 h) hgl hvl hCw (by omega) (by omega) (hz.fresh h)
  have hcw : c < wpow 39 := wpow_big (by omega)
  have hpc := fun W u (h : Fresh w0 W) (hu : BI W g u c) => hasPrec20 g c u W (hG.fresh h) (hP.fresh h) hcw hu
  rw [decide_eq_true (show 10000000000000000000 ≤ c by omega)] at hpc
  rw [← hcd] at hop
  clear hG hP hp hC hS hms hA hB hp40 hCw hcw h1 h2 hcd hj
  have H_bx := Lib.hid bx; clear bx
  have H_hprec := Lib.hid hprec; clear hprec
  have H_hz := Lib.hid hz; clear hz
  have H_hpc := Lib.hid hpc; clear hpc
  have H_hf0 := Lib.hid hf0; clear hf0
  have H_hgl := Lib.hid hgl; clear hgl
  have H_hvl := Lib.hid hvl; clear hvl
  have H_hrec := Lib.hid hrec; clear hrec
  have H_hop := Lib.hid hop; clear hop
  have H_hcl := Lib.hid hcl; clear hcl
  go_enter Tryz.func63, Tryz.ntmps63
  go_wp2_with (fail)
  generalize hwx : w.alloc _ = w1
  rw [← hb]
  obtain ⟨b1, hf⟩ := H_bx.out w1 hwx
  have H_b1 := Lib.hid b1; clear b1
  have H_hf := Lib.hid hf; clear hf
  have H_hwx := Lib.hid hwx; clear hwx
  have H_hb := Lib.hid hb; clear hb
  go_wp2_with (fail)
  refine (H_hprec.out _ H_hf.out).mono ?_
  rintro e w2 ⟨rfl, f2⟩
  have hf2 := fresh_trans H_hf.out f2
  have b2 := row_fresh H_b1.out f2
  have H_f2 := Lib.hid f2; clear f2
  have H_hf2 := Lib.hid hf2; clear hf2
  have H_b2 := Lib.hid b2; clear b2
  clear H_b1
  go_wp2_with (fail)
  refine (H_hop.out _ H_hf2.out).mono ?_
  rintro e w3 ⟨rfl, u, z3, k23, o23⟩
  have k3 : Keep (fun k => k = g ∨ v.ownBlock = some k) w w3 := H_hf2.out.trans k23 (fun _ _ h => h.elim) (fun _ _ h => h)
  have f3 : Fresh w0 w3 := H_hf0.out.trans k3 (fun _ _ h => h) (fun k hk h => by
    rcases h with rfl | h
    · have := H_hgl.out; omega
    · have := H_hvl.out k h; omega)
  have hgb : g ≠ b ∧ v.ownBlock ≠ some b := ⟨by have := H_hz.out.lt; have := H_hb.out; omega, fun h => by have := H_hz.out.own_lt h; have := H_hb.out; omega⟩
  have b3 := row_keep H_b2.out k23 (fun h => h.elim (fun h => hgb.1 h.symm) hgb.2)
  have o3 : ∀ k, (u).ownBlock = some k → v.ownBlock = some k ∨ w.heap.size ≤ k := fun k hk => (o23 k hk).elim .inl (fun h => .inr (Nat.le_trans H_hf2.out.size h))
  have hub : (u).ownBlock ≠ some b := fun h => by
    rcases o23 b h with h | h
    · exact hgb.2 h
    · have := H_hb.out; have := H_f2.out.size; have := H_hf.out.size; exact absurd (row_lt H_b2.out) (by omega)
  have H_z3 := Lib.hid z3; clear z3
  have H_k23 := Lib.hid k23; clear k23
  have H_o23 := Lib.hid o23; clear o23
  have H_k3 := Lib.hid k3; clear k3
  have H_f3 := Lib.hid f3; clear f3
  have H_b3 := Lib.hid b3; clear b3
  have H_o3 := Lib.hid o3; clear o3
  have H_hub := Lib.hid hub; clear hub
  have H_hgb := Lib.hid hgb; clear hgb
  go_wp2_with (fail)
  refine (H_hpc.out _ _ H_f3.out H_z3.out).mono ?_
  rintro e w4 ⟨rfl, f4⟩
  have z4 := H_z3.out.fresh f4
  have b4 := row_fresh H_b3.out f4
  have k4 := H_k3.out.trans f4 (fun _ _ h => h) (fun _ _ h => h.elim)
  have f04 := fresh_trans H_f3.out f4
  have H_z4 := Lib.hid z4; clear z4
  have H_b4 := Lib.hid b4; clear b4
  have H_k4 := Lib.hid k4; clear k4
  have H_f4 := Lib.hid f4; clear f4
  have H_f04 := Lib.hid f04; clear f04
  go_wp2_with (fail)
  refine (H_hrec.out w4 _ H_f04.out (fun k hk => (H_o3.out k hk).elim (fun h => H_hvl.out k h) (fun h => Nat.le_trans H_hf0.out.size h)) H_z4.out).mono ?_
  rintro e w5 ⟨ev, rfl, hpv, k45⟩
  have b5 := row_keep H_b4.out k45 (fun h => h.elim (fun h => H_hgb.out.1 h.symm) H_hub.out)
  have k5 : Keep (fun k => k = g ∨ v.ownBlock = some k) w w5 := H_k4.out.trans k45 (fun _ _ h => h) (fun k hk h => by
    rcases h with h | h
    · exact .inl h
    · rcases H_o3.out k h with h | h
      · exact .inr h
      · omega)
  have p0 := row_cell b5 0
  have p1 := row_cell b5 1
  have p2 := row_cell b5 2
  simp at p0 p1 p2
  have z0 : w5.frozen? ⟨b, 0, none⟩ = false := frozen_of_row _ _ _ _ _ b5
  have z1 : w5.frozen? ⟨b, 1, none⟩ = false := frozen_of_row _ _ _ _ _ b5
  have z2 : w5.frozen? ⟨b, 2, none⟩ = false := frozen_of_row _ _ _ _ _ b5
  have H_hpv := Lib.hid hpv; clear hpv
  have H_k45 := Lib.hid k45; clear k45
  have H_b5 := Lib.hid b5; clear b5
  have H_k5 := Lib.hid k5; clear k5
  go_wp2_with (fail)
  refine bodyPost_ret (results_cell_tmp_row rfl _ _ b 40 #[.bool nz, .int .i8 sz, .int .u64 cz] (0, 0) _ rfl (row_set (row_set (row_set H_b5.out))) Tryz.underlying40 rfl (by kernel_rfl)) rfl ?_
  exact ⟨ev, rfl, H_hpv.out, Keep.set3 H_k5.out (by have := H_hb.out; omega)⟩

set_option maxRecDepth 20000 in
set_option maxHeartbeats 4000000 in
theorem newFromBintL_D2 (w0 w : World) (neg : Bool) (g C p S ms : Nat) (v : Value) (hG : Glob w0) (hP : Pow10s w0) (hf0 : Fresh w0 w) (hgl : w0.heap.size ≤ g) (hvl : ∀ k, v.ownBlock = some k → w0.heap.size ≤ k)
    (hp : IsPrec C p) (hC : C < 10 ^ 60) (hS : S ≤ 41) (hms : ms ≤ 19) (hz : BI w g v C) (hB : ms ≤ S) (hA : p + ms ≤ 19 + S) (h1 : S < p) (h2 : 19 < p) (h3 : p ≤ 60) (c : Nat) (hcd : c = rhe C (10 ^ (p - 19))) (hcl : c = 10000000000000000000) (nz : Bool) (sz cz : Nat) (Pv : Value → Prop)
    (hrec : ∀ W u, Fresh w0 W → (∀ k, u.ownBlock = some k → w0.heap.size ≤ k) → BI W g u c → Calls Tryz.prog 63 #[.bool neg, .pointer (some ⟨g, 0, none⟩), .int .i64 ((19 + S - p) : Nat), .int .i64 ms] W (NBOut W g u nz sz cz Pv)) :
    Calls Tryz.prog 63 #[.bool neg, .pointer (some ⟨g, 0, none⟩), .int .i64 S, .int .i64 ms] w (NBOut w g v nz sz cz Pv) := by
  have hp40 : p ≤ 60 := hp.lt_iff.1 hC
  have hCw : C < wpow 39 := Nat.lt_trans hC (wpow_ten (by omega))
  have hprec := fun W (h : Fresh w W) => bprec_any g C p v W (hG.fresh (fresh_trans hf0 h)) (hP.fresh (fresh_trans hf0 h)) hp (Nat.lt_of_lt_of_le hC (Nat.pow_le_pow_right (by omega) (by omega))) (hz.fresh h)
  obtain ⟨b, hb⟩ : ∃ b, b = w.heap.size := ⟨_, rfl⟩
  have bx := box1 w #[.bool false, .int .i8 0, .int .u64 0] 40 b hb
  have hw1 : IntKind.i64.wrap ((p : Int) - (S : Int)) = (p : Int) - (S : Int) := by rw [IntKind.wrap_i64]; omega
  have hw2 : IntKind.i64.wrap (19 - (ms : Int)) = 19 - (ms : Int) := by rw [IntKind.wrap_i64]; omega
  have t1 : decide (19 - (ms : Int) < (p : Int) - (S : Int)) = false := decide_eq_false (by omega)
  have t1n : ¬ (19 - (ms : Int) < (p : Int) - (S : Int)) := by omega
  have u1 : decide ((S : Int) < (ms : Int)) = false := decide_eq_false (by omega)
  have u1n : ¬ S < ms := by omega
  have u2 : decide ((p : Int) ≤ (S : Int)) = false := decide_eq_false (by omega)
  have u2n : ¬ p ≤ S := by omega
  have u3 : decide ((S : Int) < (p : Int)) = true := decide_eq_true (by omega)
  have u3n : S < p := h1
  have u4 : decide (19 < (p : Int)) = true := decide_eq_true (by omega)
  have hsub : (p : Int) - 19 = ((p - 19 : Nat) : Int) := by omega
  obtain ⟨j, hj⟩ : ∃ j, j = p - 19 := ⟨_, rfl⟩
  rw [← hj] at hsub hcd
  have hjw : IntKind.i64.wrap (j : Int) = (j : Int) := wrap_nat j (by omega)
  have hop := fun W (h : Fresh w W) => brsh_all w0 W g C j v hG hP (fresh_trans hf0 h) hgl hvl hCw (by omega) (by omega) (hz.fresh h)
  have hw3 : IntKind.i64.wrap (19 - (p : Int)) = 19 - (p : Int) := by rw [IntKind.wrap_i64]; omega
  have hsD : (19 - (p : Int)) + (S : Int) = ((19 + S - p : Nat) : Int) := by omega
  obtain ⟨s, hs⟩ : ∃ s, s = 19 + S - p := ⟨_, rfl⟩
  rw [← hs] at hsD hrec
  have hs19 : s ≤ 19 := by omega
  have hw4 : IntKind.i64.wrap (s : Int) = (s : Int) := wrap_nat s (by omega)
  have hcw : c < wpow 39 := wpow_big (by omega)
  have hpc := fun W u (h : Fresh w0 W) (hu : BI W g u c) => hasPrec20 g c u W (hG.fresh h) (hP.fresh h) hcw hu
  rw [decide_eq_true (show 10000000000000000000 ≤ c by omega)] at hpc
  rw [← hcd] at hop
  clear hG hP hp hC hS hms hA hB hp40 hCw hcw h1 h2 h3 hcd hj hs19 hs
  have H_bx := Lib.hid bx; clear bx
  have H_hprec := Lib.hid hprec; clear hprec
  have H_hz := Lib.hid hz; clear hz
  have H_hpc := Lib.hid hpc; clear hpc
  have H_hf0 := Lib.hid hf0; clear hf0
  have H_hgl := Lib.hid hgl; clear hgl
  have H_hvl := Lib.hid hvl; clear hvl
  have H_hrec := Lib.hid hrec; clear hrec
  have H_hop := Lib.hid hop; clear hop
  have H_hcl := Lib.hid hcl; clear hcl
  go_enter Tryz.func63, Tryz.ntmps63
  go_wp2_with (fail)
  generalize hwx : w.alloc _ = w1
  rw [← hb]
  obtain ⟨b1, hf⟩ := H_bx.out w1 hwx
  have H_b1 := Lib.hid b1; clear b1
  have H_hf := Lib.hid hf; clear hf
  have H_hwx := Lib.hid hwx; clear hwx
  have H_hb := Lib.hid hb; clear hb
  go_wp2_with (fail)
  refine (H_hprec.out _ H_hf.out).mono ?_
  rintro e w2 ⟨rfl, f2⟩
  have hf2 := fresh_trans H_hf.out f2
  have b2 := row_fresh H_b1.out f2
  have H_f2 := Lib.hid f2; clear f2
  have H_hf2 := Lib.hid hf2; clear hf2
  have H_b2 := Lib.hid b2; clear b2
  clear H_b1
  go_wp2_with (fail)
  refine (H_hop.out _ H_hf2.out).mono ?_
  rintro e w3 ⟨rfl, u, z3, k23, o23⟩
  have k3 : Keep (fun k => k = g ∨ v.ownBlock = some k) w w3 := H_hf2.out.trans k23 (fun _ _ h => h.elim) (fun _ _ h => h)
  have f3 : Fresh w0 w3 := H_hf0.out.trans k3 (fun _ _ h => h) (fun k hk h => by
    rcases h with rfl | h
    · have := H_hgl.out; omega
    · have := H_hvl.out k h; omega)
  have hgb : g ≠ b ∧ v.ownBlock ≠ some b := ⟨by have := H_hz.out.lt; have := H_hb.out; omega, fun h => by have := H_hz.out.own_lt h; have := H_hb.out; omega⟩
  have b3 := row_keep H_b2.out k23 (fun h => h.elim (fun h => hgb.1 h.symm) hgb.2)
  have o3 : ∀ k, (u).ownBlock = some k → v.ownBlock = some k ∨ w.heap.size ≤ k := fun k hk => (o23 k hk).elim .inl (fun h => .inr (Nat.le_trans H_hf2.out.size h))
  have hub : (u).ownBlock ≠ some b := fun h => by
    rcases o23 b h with h | h
    · exact hgb.2 h
    · have := H_hb.out; have := H_f2.out.size; have := H_hf.out.size; exact absurd (row_lt H_b2.out) (by omega)
  have H_z3 := Lib.hid z3; clear z3
  have H_k23 := Lib.hid k23; clear k23
  have H_o23 := Lib.hid o23; clear o23
  have H_k3 := Lib.hid k3; clear k3
  have H_f3 := Lib.hid f3; clear f3
  have H_b3 := Lib.hid b3; clear b3
  have H_o3 := Lib.hid o3; clear o3
  have H_hub := Lib.hid hub; clear hub
  have H_hgb := Lib.hid hgb; clear hgb
  go_wp2_with (fail)
  refine (H_hpc.out _ _ H_f3.out H_z3.out).mono ?_
  rintro e w4 ⟨rfl, f4⟩
  have z4 := H_z3.out.fresh f4
  have b4 := row_fresh H_b3.out f4
  have k4 := H_k3.out.trans f4 (fun _ _ h => h) (fun _ _ h => h.elim)
  have f04 := fresh_trans H_f3.out f4
  have H_z4 := Lib.hid z4; clear z4
  have H_b4 := Lib.hid b4; clear b4
  have H_k4 := Lib.hid k4; clear k4
  have H_f4 := Lib.hid f4; clear f4
  have H_f04 := Lib.hid f04; clear f04
  go_wp2_with (fail)
  refine (H_hrec.out w4 _ H_f04.out (fun k hk => (H_o3.out k hk).elim (fun h => H_hvl.out k h) (fun h => Nat.le_trans H_hf0.out.size h)) H_z4.out).mono ?_
  rintro e w5 ⟨ev, rfl, hpv, k45⟩
  have b5 := row_keep H_b4.out k45 (fun h => h.elim (fun h => H_hgb.out.1 h.symm) H_hub.out)
  have k5 : Keep (fun k => k = g ∨ v.ownBlock = some k) w w5 := H_k4.out.trans k45 (fun _ _ h => h) (fun k hk h => by
    rcases h with h | h
    · exact .inl h
    · rcases H_o3.out k h with h | h
      · exact .inr h
      · omega)
  have p0 := row_cell b5 0
  have p1 := row_cell b5 1
  have p2 := row_cell b5 2
  simp at p0 p1 p2
  have z0 : w5.frozen? ⟨b, 0, none⟩ = false := frozen_of_row _ _ _ _ _ b5
  have z1 : w5.frozen? ⟨b, 1, none⟩ = false := frozen_of_row _ _ _ _ _ b5
  have z2 : w5.frozen? ⟨b, 2, none⟩ = false := frozen_of_row _ _ _ _ _ b5
  have H_hpv := Lib.hid hpv; clear hpv
  have H_k45 := Lib.hid k45; clear k45
  have H_b5 := Lib.hid b5; clear b5
  have H_k5 := Lib.hid k5; clear k5
  go_wp2_with (fail)
  refine bodyPost_ret (results_cell_tmp_row rfl _ _ b 40 #[.bool nz, .int .i8 sz, .int .u64 cz] (0, 0) _ rfl (row_set (row_set (row_set H_b5.out))) Tryz.underlying40 rfl (by kernel_rfl)) rfl ?_
  exact ⟨ev, rfl, H_hpv.out, Keep.set3 H_k5.out (by have := H_hb.out; omega)⟩

theorem newFromBintL_20 (w0 w : World) (neg : Bool) (g s ms : Nat) (v : Value) (hG : Glob w0) (hP : Pow10s w0) (hf0 : Fresh w0 w) (hgl : w0.heap.size ≤ g) (hvl : ∀ k, v.ownBlock = some k → w0.heap.size ≤ k)
    (hs : s ≤ 19) (hms : ms ≤ s) (hz : BI w g v 10000000000000000000) :
    Calls Tryz.prog 63 #[.bool neg, .pointer (some ⟨g, 0, none⟩), .int .i64 s, .int .i64 ms] w (NBRet w g v neg (nbStep 10000000000000000000 20 s ms)) := by
  unfold nbStep
  rcases Nat.lt_or_ge (19 + s) (20 + ms) with h | h
  · rw [if_pos h]
    exact newFromBintL_no w0 w neg g _ 20 s ms v hG hP hf0 hgl hvl isPrec20 (by decide) (by omega) (by omega) hz h
  · rw [if_neg (by omega), if_neg (by omega), if_neg (by omega), if_pos (by omega)]
    rw [rhe20]
    exact newFromBintL_D w0 w neg g _ 20 s ms v hG hP hf0 hgl hvl isPrec20 (by decide) (by omega) (by omega) hz hms (by omega) (by omega) (by omega) (by omega) 1000000000000000000 rhe20.symm (by omega)

theorem newFromBintL_any (w0 w : World) (neg : Bool) (g C p S ms : Nat) (v : Value) (hG : Glob w0) (hP : Pow10s w0) (hf0 : Fresh w0 w) (hgl : w0.heap.size ≤ g) (hvl : ∀ k, v.ownBlock = some k → w0.heap.size ≤ k)
    (hp : IsPrec C p) (hC : p ≤ 80) (hS : S ≤ 41) (hms : ms ≤ 19) (hz : BI w g v C) :
    Calls Tryz.prog 63 #[.bool neg, .pointer (some ⟨g, 0, none⟩), .int .i64 S, .int .i64 ms] w (NBRet w g v neg (nbOut C p S ms)) := by
  have hle := @nbStep_some C (10 ^ S) C p S ms
  have hrec : ∀ s c, c = 10000000000000000000 → s ≤ 19 → ms ≤ s → ∀ W u, Fresh w0 W → (∀ k, u.ownBlock = some k → w0.heap.size ≤ k) → BI W g u c →
      Calls Tryz.prog 63 #[.bool neg, .pointer (some ⟨g, 0, none⟩), .int .i64 (s : Nat), .int .i64 ms] W (NBRet W g u neg (nbStep c 20 s ms)) := by
    rintro s c rfl hs hms' W u hW hu hb
    exact newFromBintL_20 w0 W neg g s ms u hG hP hW hgl hu hs hms' hb
  unfold nbOut
  rcases Nat.lt_or_ge (19 + S) (p + ms) with hA | hA
  · have e : nbStep C p S ms = none := by unfold nbStep; rw [if_pos hA]
    rw [e]
    exact newFromBintL_no w0 w neg g C p S ms v hG hP hf0 hgl hvl hp (hp.lt_iff.2 hC) hS hms hz hA
  · have hC40 : C < 10 ^ 60 := hp.lt_iff.2 (by omega)
    rcases Nat.lt_or_ge S ms with hB | hB
    · have e : nbStep C p S ms = some (C * 10 ^ (ms - S), ms) := by unfold nbStep; rw [if_neg (by omega), if_pos hB]
      have hlt : C * 10 ^ (ms - S) < 10 ^ 19 := by
        have h1 : C < 10 ^ p := hp.1
        have h2 : C * 10 ^ (ms - S) < 10 ^ p * 10 ^ (ms - S) := Nat.mul_lt_mul_of_pos_right h1 (Nat.pow_pos (by omega))
        rw [← Nat.pow_add] at h2
        exact Nat.lt_of_lt_of_le h2 (Nat.pow_le_pow_right (by omega) (by omega))
      rw [show (10 : Nat) ^ 19 = 10000000000000000000 from rfl] at hlt
      rw [e]
      show Calls _ _ _ _ (NBRet w g v neg (if C * 10 ^ (ms - S) < 10000000000000000000 then _ else _))
      rw [if_pos hlt]
      exact newFromBintL_B w0 w neg g C p S ms v hG hP hf0 hgl hvl hp hC40 hS hms hz hB hA _ rfl (by omega)
    · by_cases h1 : p ≤ S ∧ 19 < S
      · have e : nbStep C p S ms = some (rhe C (10 ^ (S - 19)), 19) := by unfold nbStep; rw [if_neg (by omega), if_neg (by omega), if_pos h1]
        obtain ⟨_, _, hc19, _, _⟩ := hle rfl (Nat.pow_pos (by omega)) hp hms e
        rw [e]
        show Calls _ _ _ _ (NBRet w g v neg (if rhe C (10 ^ (S - 19)) < 10000000000000000000 then _ else _))
        by_cases hl : rhe C (10 ^ (S - 19)) < 10000000000000000000
        · rw [if_pos hl]
          exact newFromBintL_C w0 w neg g C p S ms v hG hP hf0 hgl hvl hp hC40 hS hms hz hB hA h1.1 h1.2 _ rfl (by omega)
        · rw [if_neg hl]
          obtain ⟨c, hc⟩ : ∃ c, c = rhe C (10 ^ (S - 19)) := ⟨_, rfl⟩
          rw [← hc] at hl hc19 ⊢
          have hr := hrec 19 c (by omega) (by omega) hms
          rcases ho : nbStep c 20 19 ms with _ | ⟨c', s'⟩
          · rw [ho] at hr
            exact newFromBintL_C2 w0 w neg g C p S ms v hG hP hf0 hgl hvl hp hC40 hS hms hz hB hA h1.1 h1.2 c hc (by omega) _ _ _ _ hr
          · rw [ho] at hr
            exact newFromBintL_C2 w0 w neg g C p S ms v hG hP hf0 hgl hvl hp hC40 hS hms hz hB hA h1.1 h1.2 c hc (by omega) _ _ _ _ hr
      · by_cases h2 : S < p ∧ 19 < p
        · have e : nbStep C p S ms = some (rhe C (10 ^ (p - 19)), 19 + S - p) := by unfold nbStep; rw [if_neg (by omega), if_neg (by omega), if_neg h1, if_pos h2]
          obtain ⟨hm1, hm2, hc19, _, _⟩ := hle rfl (Nat.pow_pos (by omega)) hp hms e
          rw [e]
          show Calls _ _ _ _ (NBRet w g v neg (if rhe C (10 ^ (p - 19)) < 10000000000000000000 then _ else _))
          by_cases hl : rhe C (10 ^ (p - 19)) < 10000000000000000000
          · rw [if_pos hl]
            exact newFromBintL_D w0 w neg g C p S ms v hG hP hf0 hgl hvl hp hC40 hS hms hz hB hA h2.1 h2.2 (by omega) _ rfl (by omega)
          · rw [if_neg hl]
            obtain ⟨c, hc⟩ : ∃ c, c = rhe C (10 ^ (p - 19)) := ⟨_, rfl⟩
            rw [← hc] at hl hc19 ⊢
            have hr := hrec (19 + S - p) c (by omega) hm2 hm1
            rcases ho : nbStep c 20 (19 + S - p) ms with _ | ⟨c', s'⟩
            · rw [ho] at hr
              exact newFromBintL_D2 w0 w neg g C p S ms v hG hP hf0 hgl hvl hp hC40 hS hms hz hB hA h2.1 h2.2 (by omega) c hc (by omega) _ _ _ _ hr
            · rw [ho] at hr
              exact newFromBintL_D2 w0 w neg g C p S ms v hG hP hf0 hgl hvl hp hC40 hS hms hz hB hA h2.1 h2.2 (by omega) c hc (by omega) _ _ _ _ hr
        · have e : nbStep C p S ms = some (C, S) := by unfold nbStep; rw [if_neg (by omega), if_neg (by omega), if_neg h1, if_neg h2]
          have hlt : C < 10 ^ 19 := hp.lt_iff.2 (by omega)
          rw [show (10 : Nat) ^ 19 = 10000000000000000000 from rfl] at hlt
          rw [e]
          show Calls _ _ _ _ (NBRet w g v neg (if C < 10000000000000000000 then _ else _))
          rw [if_pos hlt]
          exact newFromBintL_E w0 w neg g C p S ms v hG hP hf0 hgl hvl hp hC40 hS hms hz hB hA (by omega) (by omega) (by omega)

end Go.Proofs.YtjjolcjeiogdmabGreatDoor
