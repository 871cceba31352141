/- govalues: newFromBint. -/
import Derived.Test.YtibaeafmgncjdaaGreatDoorK17
import Derived.Test.YtibaeafmgncjdaaGreatDoorK38
import Derived.Test.YtibaeafmgncjdaaGreatDoorK39
namespace Go.Proofs.YtibaeafmgncjdaaGreatDoor
open Go.RowKit

/-- a decimal and a fault; nothing has turned but the whole number in g and its words -/
def NBOut (w : World) (g : Nat) (v : Value) (nz : Bool) (sz cz : Nat) (Pv : Value → Prop) (e : Ending) (w' : World) : Prop :=
  ∃ ev, e = .returned (.tuple #[gd nz sz cz, ev]) ∧ Pv ev ∧ Keep (fun k => k = g ∨ v.ownBlock = some k) w w'

theorem row_keep {S : Nat → Prop} {w w' : World} {g : Nat} {o : Obj} (h : w.heap[g]? = some o) (hk : Keep S w w') (hs : ¬ S g) : w'.heap[g]? = some o := by
  have hlt : g < w.heap.size := by
    rcases Nat.lt_or_ge g w.heap.size with hlt | hge
    · exact hlt
    · rw [Array.getElem?_eq_none hge] at h; cases h
  exact (hk.block g hlt hs).trans h

theorem row_lt {w : World} {g : Nat} {o : Obj} (h : w.heap[g]? = some o) : g < w.heap.size := by
  rcases Nat.lt_or_ge g w.heap.size with hlt | hge
  · exact hlt
  · rw [Array.getElem?_eq_none hge] at h; cases h

theorem Keep.set3 {S : Nat → Prop} {w w1 : World} {g : Nat} {o1 o2 o3 : Nat} {v1 v2 v3 : Value} (h : Keep S w w1) (hg : w.heap.size ≤ g) : Keep S w (((w1.setCell ⟨g, o1, none⟩ v1).setCell ⟨g, o2, none⟩ v2).setCell ⟨g, o3, none⟩ v3) :=
  ((h.setCell (fun h => absurd h (by show ¬ g < w.heap.size; omega)) _).setCell (fun h => absurd h (by show ¬ g < w.heap.size; omega)) _).setCell (fun h => absurd h (by show ¬ g < w.heap.size; omega)) _

theorem overflowError_any (a b c : Int) (w : World) : Calls Tryz.prog 135 #[.int .i64 a, .int .i64 b, .int .i64 c] w (ERet w) := by
  go_enter Tryz.func135, Tryz.ntmps135
  go_wp2_with (fail)
  refine (errorsNew_any _ _).mono ?_
  rintro e w2 ⟨ae, rfl, hf⟩
  have H_hf := Lib.hid hf; clear hf
  go_wp2
  go_ret
  exact ⟨ae, rfl, H_hf.out⟩

set_option maxRecDepth 20000 in
set_option maxHeartbeats 2000000 in
theorem newFromBint_no (w0 w : World) (neg : Bool) (g C p S ms : Nat) (v : Value) (hG : Glob w0) (hP : Pow10s w0) (hf0 : Fresh w0 w) (hgl : w0.heap.size ≤ g) (hvl : ∀ k, v.ownBlock = some k → w0.heap.size ≤ k)
    (hp : IsPrec C p) (hC : C < 10 ^ 40) (hS : S ≤ 38) (hms : ms ≤ 19) (hz : BI w g v C) (hA : 19 + S < p + ms) :
    Calls Tryz.prog 120 #[.bool neg, .pointer (some ⟨g, 0, none⟩), .int .i64 S, .int .i64 ms] w (NBOut w g v false 0 0 AnErr) := by
  have hp40 : p ≤ 40 := hp.lt_iff.1 hC
  have hCw : C < wpow 39 := wpow_big (Nat.lt_of_lt_of_le hC (by decide))
  have hprec := fun W (h : Fresh w W) => bprec_any g C p v W (hG.fresh (fresh_trans hf0 h)) (hP.fresh (fresh_trans hf0 h)) hp (Nat.lt_of_lt_of_le hC (Nat.pow_le_pow_right (by omega) (by omega))) (hz.fresh h)
  obtain ⟨b, hb⟩ : ∃ b, b = w.heap.size := ⟨_, rfl⟩
  have bx := box1 w #[.bool false, .int .i8 0, .int .u64 0] 62 b hb
  have hw1 : IntKind.i64.wrap ((p : Int) - (S : Int)) = (p : Int) - (S : Int) := by rw [IntKind.wrap_i64]; omega
  have hw2 : IntKind.i64.wrap (19 - (ms : Int)) = 19 - (ms : Int) := by rw [IntKind.wrap_i64]; omega
  have t1 : decide (19 - (ms : Int) < (p : Int) - (S : Int)) = true := decide_eq_true (by omega)
  have t1n : 19 - (ms : Int) < (p : Int) - (S : Int) := by omega
  clear hG hP hf0 hgl hvl hp hC hS hms hA hp40 hCw
  have H_bx := Lib.hid bx; clear bx
  have H_hprec := Lib.hid hprec; clear hprec
  have H_hz := Lib.hid hz; clear hz
  go_enter Tryz.func120, Tryz.ntmps120
  go_wp2_with (fail)
  generalize hwx : w.alloc _ = w1
  rw [← hb]
  obtain ⟨b1, hf⟩ := H_bx.out w1 hwx
  have H_b1 := Lib.hid b1; clear b1
  have H_hf := Lib.hid hf; clear hf
  have H_hwx := Lib.hid hwx; clear hwx
  have H_hb := Lib.hid hb; clear hb
  go_wp2_with (fail)
  refine (H_hprec.out _ H_hf.out).mono ?_
  rintro e w2 ⟨rfl, f2⟩
  have hf2 := fresh_trans H_hf.out f2
  have b2 := row_fresh H_b1.out f2
  have H_f2 := Lib.hid f2; clear f2
  have H_hf2 := Lib.hid hf2; clear hf2
  have H_b2 := Lib.hid b2; clear b2
  clear H_b1
  go_wp2_with (fail)
  refine (overflowError_any _ _ _ _).mono ?_
  rintro e w3 ⟨ae, rfl, f3⟩
  have b3 := row_fresh H_b2.out f3
  have p0 := row_cell b3 0
  have p1 := row_cell b3 1
  have p2 := row_cell b3 2
  simp at p0 p1 p2
  have z0 : w3.frozen? ⟨b, 0, none⟩ = false := frozen_of_row _ _ _ _ _ b3
  have z1 : w3.frozen? ⟨b, 1, none⟩ = false := frozen_of_row _ _ _ _ _ b3
  have z2 : w3.frozen? ⟨b, 2, none⟩ = false := frozen_of_row _ _ _ _ _ b3
  have H_b3 := Lib.hid b3; clear b3
  have H_f3 := Lib.hid f3; clear f3
  go_wp2_with (fail)
  refine bodyPost_ret (results_cell_tmp_row rfl _ _ b 62 #[.bool false, .int .i8 0, .int .u64 0] (0, 0) _ rfl (row_set (row_set (row_set H_b3.out))) Tryz.underlying62 rfl (by kernel_rfl)) rfl ?_
  exact ⟨_, rfl, ⟨ae, rfl⟩, Keep.set3 ((fresh_trans H_hf2.out H_f3.out).trans (Keep.refl (fun _ => False) _) (fun _ _ h => h.elim) (fun _ _ h => h.elim)) (by have := H_hb.out; omega)⟩

set_option maxRecDepth 20000 in
set_option maxHeartbeats 4000000 in
theorem newFromBint_B (w0 w : World) (neg : Bool) (g C p S ms : Nat) (v : Value) (hG : Glob w0) (hP : Pow10s w0) (hf0 : Fresh w0 w) (hgl : w0.heap.size ≤ g) (hvl : ∀ k, v.ownBlock = some k → w0.heap.size ≤ k)
    (hp : IsPrec C p) (hC : C < 10 ^ 40) (hS : S ≤ 38) (hms : ms ≤ 19) (hz : BI w g v C) (hB : S < ms) (hA : p + ms ≤ 19 + S) (c : Nat) (hcd : c = C * 10 ^ (ms - S)) (hcl : c ≤ 9999999999999999999) :
    Calls Tryz.prog 120 #[.bool neg, .pointer (some ⟨g, 0, none⟩), .int .i64 S, .int .i64 ms] w (NBOut w g v (neg && decide (0 < c)) ms c NoErr) := by
  have hp40 : p ≤ 40 := hp.lt_iff.1 hC
  have hCw : C < wpow 39 := wpow_big (Nat.lt_of_lt_of_le hC (by decide))
  have hprec := fun W (h : Fresh w W) => bprec_any g C p v W (hG.fresh (fresh_trans hf0 h)) (hP.fresh (fresh_trans hf0 h)) hp (Nat.lt_of_lt_of_le hC (Nat.pow_le_pow_right (by omega) (by omega))) (hz.fresh h)
  obtain ⟨b, hb⟩ : ∃ b, b = w.heap.size := ⟨_, rfl⟩
  have bx := box1 w #[.bool false, .int .i8 0, .int .u64 0] 62 b hb
  have hw1 : IntKind.i64.wrap ((p : Int) - (S : Int)) = (p : Int) - (S : Int) := by rw [IntKind.wrap_i64]; omega
  have hw2 : IntKind.i64.wrap (19 - (ms : Int)) = 19 - (ms : Int) := by rw [IntKind.wrap_i64]; omega
  have t1 : decide (19 - (ms : Int) < (p : Int) - (S : Int)) = false := decide_eq_false (by omega)
  have t1n : ¬ (19 - (ms : Int) < (p : Int) - (S : Int)) := by omega
  have u1 : decide ((S : Int) < (ms : Int)) = true := decide_eq_true (by omega)
  have u1n : S < ms := hB
  have hsub : (ms : Int) - (S : Int) = ((ms - S : Nat) : Int) := by omega
  obtain ⟨j, hj⟩ : ∃ j, j = ms - S := ⟨_, rfl⟩
  rw [← hj] at hsub hcd
  have hjw : IntKind.i64.wrap (j : Int) = (j : Int) := wrap_nat j (by omega)
  have hop := fun W (h : Fresh w W) => lsh_self g v C j W (hG.fresh (fresh_trans hf0 h)) (hP.fresh (fresh_trans hf0 h)) hCw (by omega) (hz.fresh h)
  have hcw : c < wpow 39 := wpow_big (by omega)
  have hpc := fun W u (h : Fresh w0 W) (hu : BI W g u c) => hasPrec20 g c u W (hG.fresh h) (hP.fresh h) hcw hu
  rw [decide_eq_false (show ¬ 10000000000000000000 ≤ c by omega)] at hpc
  have hfi := fun W u (hu : BI W g u c) => bfint_any g c u W (by omega) hu
  have hsafe := fun W => newSafe_any neg ms c W (by omega) hcl
  rw [← hcd] at hop
  clear hG hP hp hC hS hms hA hB hp40 hCw hcw hcd hj
  have H_bx := Lib.hid bx; clear bx
  have H_hprec := Lib.hid hprec; clear hprec
  have H_hz := Lib.hid hz; clear hz
  have H_hpc := Lib.hid hpc; clear hpc
  have H_hf0 := Lib.hid hf0; clear hf0
  have H_hgl := Lib.hid hgl; clear hgl
  have H_hvl := Lib.hid hvl; clear hvl
  have H_hfi := Lib.hid hfi; clear hfi
  have H_hsafe := Lib.hid hsafe; clear hsafe
  have H_hop := Lib.hid hop; clear hop
  have H_hcl := Lib.hid hcl; clear hcl
  go_enter Tryz.func120, Tryz.ntmps120
  go_wp2_with (fail)
  generalize hwx : w.alloc _ = w1
  rw [← hb]
  obtain ⟨b1, hf⟩ := H_bx.out w1 hwx
  have H_b1 := Lib.hid b1; clear b1
  have H_hf := Lib.hid hf; clear hf
  have H_hwx := Lib.hid hwx; clear hwx
  have H_hb := Lib.hid hb; clear hb
  go_wp2_with (fail)
  refine (H_hprec.out _ H_hf.out).mono ?_
  rintro e w2 ⟨rfl, f2⟩
  have hf2 := fresh_trans H_hf.out f2
  have b2 := row_fresh H_b1.out f2
  have H_f2 := Lib.hid f2; clear f2
  have H_hf2 := Lib.hid hf2; clear hf2
  have H_b2 := Lib.hid b2; clear b2
  clear H_b1
  go_wp2_with (fail)
  refine (H_hop.out _ H_hf2.out).mono ?_
  rintro e w3 ⟨rfl, u, z3, k23, o23⟩
  have k3 : Keep (fun k => k = g ∨ v.ownBlock = some k) w w3 := H_hf2.out.trans k23 (fun _ _ h => h.elim) (fun _ _ h => h)
  have f3 : Fresh w0 w3 := H_hf0.out.trans k3 (fun _ _ h => h) (fun k hk h => by
    rcases h with rfl | h
    · have := H_hgl.out; omega
    · have := H_hvl.out k h; omega)
  have hgb : g ≠ b ∧ v.ownBlock ≠ some b := ⟨by have := H_hz.out.lt; have := H_hb.out; omega, fun h => by have := H_hz.out.own_lt h; have := H_hb.out; omega⟩
  have b3 := row_keep H_b2.out k23 (fun h => h.elim (fun h => hgb.1 h.symm) hgb.2)
  have o3 : ∀ k, (u).ownBlock = some k → v.ownBlock = some k ∨ w.heap.size ≤ k := fun k hk => (o23 k hk).elim .inl (fun h => .inr (Nat.le_trans H_hf2.out.size h))
  have hub : (u).ownBlock ≠ some b := fun h => by
    rcases o23 b h with h | h
    · exact hgb.2 h
    · have := H_hb.out; have := H_f2.out.size; have := H_hf.out.size; exact absurd (row_lt H_b2.out) (by omega)
  have H_z3 := Lib.hid z3; clear z3
  have H_k23 := Lib.hid k23; clear k23
  have H_o23 := Lib.hid o23; clear o23
  have H_k3 := Lib.hid k3; clear k3
  have H_f3 := Lib.hid f3; clear f3
  have H_b3 := Lib.hid b3; clear b3
  have H_o3 := Lib.hid o3; clear o3
  have H_hub := Lib.hid hub; clear hub
  have H_hgb := Lib.hid hgb; clear hgb
  go_wp2_with (fail)
  refine (H_hpc.out _ _ H_f3.out H_z3.out).mono ?_
  rintro e w4 ⟨rfl, f4⟩
  have z4 := H_z3.out.fresh f4
  have b4 := row_fresh H_b3.out f4
  have k4 := H_k3.out.trans f4 (fun _ _ h => h) (fun _ _ h => h.elim)
  have f04 := fresh_trans H_f3.out f4
  have H_z4 := Lib.hid z4; clear z4
  have H_b4 := Lib.hid b4; clear b4
  have H_k4 := Lib.hid k4; clear k4
  have H_f4 := Lib.hid f4; clear f4
  have H_f04 := Lib.hid f04; clear f04
  go_wp2_with (fail)
  refine (H_hfi.out _ _ H_z4.out).mono ?_
  rintro e w5 ⟨rfl, e5⟩
  subst w5
  go_wp2_with (fail)
  refine (H_hsafe.out _).mono ?_
  rintro e w6 ⟨rfl, f6⟩
  have b6 := row_fresh H_b4.out f6
  have p0 := row_cell b6 0
  have p1 := row_cell b6 1
  have p2 := row_cell b6 2
  simp at p0 p1 p2
  have z0 : w6.frozen? ⟨b, 0, none⟩ = false := frozen_of_row _ _ _ _ _ b6
  have z1 : w6.frozen? ⟨b, 1, none⟩ = false := frozen_of_row _ _ _ _ _ b6
  have z2 : w6.frozen? ⟨b, 2, none⟩ = false := frozen_of_row _ _ _ _ _ b6
  obtain ⟨bn, hbn⟩ : ∃ b, b = (neg && decide (0 < c)) := ⟨_, rfl⟩
  rw [← hbn]
  have H_b6 := Lib.hid b6; clear b6
  have H_f6 := Lib.hid f6; clear f6
  have H_hbn := Lib.hid hbn; clear hbn
  go_wp2_with (fail)
  refine bodyPost_ret (results_cell_tmp_row rfl _ _ b 62 #[.bool bn, .int .i8 ms, .int .u64 c] (0, 0) _ rfl (row_set (row_set (row_set H_b6.out))) Tryz.underlying62 rfl (by kernel_rfl)) rfl ?_
  exact ⟨_, by rw [← H_hbn.out]; rfl, rfl, Keep.set3 (H_k4.out.trans H_f6.out (fun _ _ h => h) (fun _ _ h => h.elim)) (by have := H_hb.out; omega)⟩

set_option maxRecDepth 20000 in
set_option maxHeartbeats 4000000 in
theorem newFromBint_C (w0 w : World) (neg : Bool) (g C p S ms : Nat) (v : Value) (hG : Glob w0) (hP : Pow10s w0) (hf0 : Fresh w0 w) (hgl : w0.heap.size ≤ g) (hvl : ∀ k, v.ownBlock = some k → w0.heap.size ≤ k)
    (hp : IsPrec C p) (hC : C < 10 ^ 40) (hS : S ≤ 38) (hms : ms ≤ 19) (hz : BI w g v C) (hB : ms ≤ S) (hA : p + ms ≤ 19 + S) (h1 : p ≤ S) (h2 : 19 < S) (c : Nat) (hcd : c = rhe C (10 ^ (S - 19))) (hcl : c ≤ 9999999999999999999) :
    Calls Tryz.prog 120 #[.bool neg, .pointer (some ⟨g, 0, none⟩), .int .i64 S, .int .i64 ms] w (NBOut w g v (neg && decide (0 < c)) 19 c NoErr) := by
  have hp40 : p ≤ 40 := hp.lt_iff.1 hC
  have hCw : C < wpow 39 := wpow_big (Nat.lt_of_lt_of_le hC (by decide))
  have hprec := fun W (h : Fresh w W) => bprec_any g C p v W (hG.fresh (fresh_trans hf0 h)) (hP.fresh (fresh_trans hf0 h)) hp (Nat.lt_of_lt_of_le hC (Nat.pow_le_pow_right (by omega) (by omega))) (hz.fresh h)
  obtain ⟨b, hb⟩ : ∃ b, b = w.heap.size := ⟨_, rfl⟩
  have bx := box1 w #[.bool false, .int .i8 0, .int .u64 0] 62 b hb
  have hw1 : IntKind.i64.wrap ((p : Int) - (S : Int)) = (p : Int) - (S : Int) := by rw [IntKind.wrap_i64]; omega
  have hw2 : IntKind.i64.wrap (19 - (ms : Int)) = 19 - (ms : Int) := by rw [IntKind.wrap_i64]; omega
  have t1 : decide (19 - (ms : Int) < (p : Int) - (S : Int)) = false := decide_eq_false (by omega)
  have t1n : ¬ (19 - (ms : Int) < (p : Int) - (S : Int)) := by omega
  have u1 : decide ((S : Int) < (ms : Int)) = false := decide_eq_false (by omega)
  have u1n : ¬ S < ms := by omega
  have u2 : decide ((p : Int) ≤ (S : Int)) = true := decide_eq_true (by omega)
  have u2n : p ≤ S := h1
  have u3 : decide (19 < (S : Int)) = true := decide_eq_true (by omega)
  have hsub : (S : Int) - 19 = ((S - 19 : Nat) : Int) := by omega
  obtain ⟨j, hj⟩ : ∃ j, j = S - 19 := ⟨_, rfl⟩
  rw [← hj] at hsub hcd
  have hjw : IntKind.i64.wrap (j : Int) = (j : Int) := wrap_nat j (by omega)
  have hop := fun W (h : Fresh w W) => brsh_any w0 W g C j v hG hP (fresh_trans hf0 h) hgl hvl hCw (by omega) (by omega) (hz.fresh h)
  have hcw : c < wpow 39 := wpow_big (by omega)
  have hpc := fun W u (h : Fresh w0 W) (hu : BI W g u c) => hasPrec20 g c u W (hG.fresh h) (hP.fresh h) hcw hu
  rw [decide_eq_false (show ¬ 10000000000000000000 ≤ c by omega)] at hpc
  have hfi := fun W u (hu : BI W g u c) => bfint_any g c u W (by omega) hu
  have hsafe := fun W => newSafe_any neg 19 c W (by omega) hcl
  rw [← hcd] at hop
  clear hG hP hp hC hS hms hA hB hp40 hCw hcw h1 h2 hcd hj
  have H_bx := Lib.hid bx; clear bx
  have H_hprec := Lib.hid hprec; clear hprec
  have H_hz := Lib.hid hz; clear hz
  have H_hpc := Lib.hid hpc; clear hpc
  have H_hf0 := Lib.hid hf0; clear hf0
  have H_hgl := Lib.hid hgl; clear hgl
  have H_hvl := Lib.hid hvl; clear hvl
  have H_hfi := Lib.hid hfi; clear hfi
  have H_hsafe := Lib.hid hsafe; clear hsafe
  have H_hop := Lib.hid hop; clear hop
  have H_hcl := Lib.hid hcl; clear hcl
  go_enter Tryz.func120, Tryz.ntmps120
  go_wp2_with (fail)
  generalize hwx : w.alloc _ = w1
  rw [← hb]
  obtain ⟨b1, hf⟩ := H_bx.out w1 hwx
  have H_b1 := Lib.hid b1; clear b1
  have H_hf := Lib.hid hf; clear hf
  have H_hwx := Lib.hid hwx; clear hwx
  have H_hb := Lib.hid hb; clear hb
  go_wp2_with (fail)
  refine (H_hprec.out _ H_hf.out).mono ?_
  rintro e w2 ⟨rfl, f2⟩
  have hf2 := fresh_trans H_hf.out f2
  have b2 := row_fresh H_b1.out f2
  have H_f2 := Lib.hid f2; clear f2
  have H_hf2 := Lib.hid hf2; clear hf2
  have H_b2 := Lib.hid b2; clear b2
  clear H_b1
  go_wp2_with (fail)
  refine (H_hop.out _ H_hf2.out).mono ?_
  rintro e w3 ⟨rfl, u, z3, k23, o23⟩
  have k3 : Keep (fun k => k = g ∨ v.ownBlock = some k) w w3 := H_hf2.out.trans k23 (fun _ _ h => h.elim) (fun _ _ h => h)
  have f3 : Fresh w0 w3 := H_hf0.out.trans k3 (fun _ _ h => h) (fun k hk h => by
    rcases h with rfl | h
    · have := H_hgl.out; omega
    · have := H_hvl.out k h; omega)
  have hgb : g ≠ b ∧ v.ownBlock ≠ some b := ⟨by have := H_hz.out.lt; have := H_hb.out; omega, fun h => by have := H_hz.out.own_lt h; have := H_hb.out; omega⟩
  have b3 := row_keep H_b2.out k23 (fun h => h.elim (fun h => hgb.1 h.symm) hgb.2)
  have o3 : ∀ k, (u).ownBlock = some k → v.ownBlock = some k ∨ w.heap.size ≤ k := fun k hk => (o23 k hk).elim .inl (fun h => .inr (Nat.le_trans H_hf2.out.size h))
  have hub : (u).ownBlock ≠ some b := fun h => by
    rcases o23 b h with h | h
    · exact hgb.2 h
    · have := H_hb.out; have := H_f2.out.size; have := H_hf.out.size; exact absurd (row_lt H_b2.out) (by omega)
  have H_z3 := Lib.hid z3; clear z3
  have H_k23 := Lib.hid k23; clear k23
  have H_o23 := Lib.hid o23; clear o23
  have H_k3 := Lib.hid k3; clear k3
  have H_f3 := Lib.hid f3; clear f3
  have H_b3 := Lib.hid b3; clear b3
  have H_o3 := Lib.hid o3; clear o3
  have H_hub := Lib.hid hub; clear hub
  have H_hgb := Lib.hid hgb; clear hgb
  go_wp2_with (fail)
  refine (H_hpc.out _ _ H_f3.out H_z3.out).mono ?_
  rintro e w4 ⟨rfl, f4⟩
  have z4 := H_z3.out.fresh f4
  have b4 := row_fresh H_b3.out f4
  have k4 := H_k3.out.trans f4 (fun _ _ h => h) (fun _ _ h => h.elim)
  have f04 := fresh_trans H_f3.out f4
  have H_z4 := Lib.hid z4; clear z4
  have H_b4 := Lib.hid b4; clear b4
  have H_k4 := Lib.hid k4; clear k4
  have H_f4 := Lib.hid f4; clear f4
  have H_f04 := Lib.hid f04; clear f04
  go_wp2_with (fail)
  refine (H_hfi.out _ _ H_z4.out).mono ?_
  rintro e w5 ⟨rfl, e5⟩
  subst w5
  go_wp2_with (fail)
  refine (H_hsafe.out _).mono ?_
  rintro e w6 ⟨rfl, f6⟩
  have b6 := row_fresh H_b4.out f6
  have p0 := row_cell b6 0
  have p1 := row_cell b6 1
  have p2 := row_cell b6 2
  simp at p0 p1 p2
  have z0 : w6.frozen? ⟨b, 0, none⟩ = false := frozen_of_row _ _ _ _ _ b6
  have z1 : w6.frozen? ⟨b, 1, none⟩ = false := frozen_of_row _ _ _ _ _ b6
  have z2 : w6.frozen? ⟨b, 2, none⟩ = false := frozen_of_row _ _ _ _ _ b6
  obtain ⟨bn, hbn⟩ : ∃ b, b = (neg && decide (0 < c)) := ⟨_, rfl⟩
  rw [← hbn]
  have H_b6 := Lib.hid b6; clear b6
  have H_f6 := Lib.hid f6; clear f6
  have H_hbn := Lib.hid hbn; clear hbn
  go_wp2_with (fail)
  refine bodyPost_ret (results_cell_tmp_row rfl _ _ b 62 #[.bool bn, .int .i8 19, .int .u64 c] (0, 0) _ rfl (row_set (row_set (row_set H_b6.out))) Tryz.underlying62 rfl (by kernel_rfl)) rfl ?_
  exact ⟨_, by rw [← H_hbn.out]; rfl, rfl, Keep.set3 (H_k4.out.trans H_f6.out (fun _ _ h => h) (fun _ _ h => h.elim)) (by have := H_hb.out; omega)⟩

set_option maxRecDepth 20000 in
set_option maxHeartbeats 4000000 in
theorem newFromBint_D (w0 w : World) (neg : Bool) (g C p S ms : Nat) (v : Value) (hG : Glob w0) (hP : Pow10s w0) (hf0 : Fresh w0 w) (hgl : w0.heap.size ≤ g) (hvl : ∀ k, v.ownBlock = some k → w0.heap.size ≤ k)
    (hp : IsPrec C p) (hC : C < 10 ^ 40) (hS : S ≤ 38) (hms : ms ≤ 19) (hz : BI w g v C) (hB : ms ≤ S) (hA : p + ms ≤ 19 + S) (h1 : S < p) (h2 : 19 < p) (h3 : p ≤ 38) (c : Nat) (hcd : c = rhe C (10 ^ (p - 19))) (hcl : c ≤ 9999999999999999999) :
    Calls Tryz.prog 120 #[.bool neg, .pointer (some ⟨g, 0, none⟩), .int .i64 S, .int .i64 ms] w (NBOut w g v (neg && decide (0 < c)) (19 + S - p) c NoErr) := by
  have hp40 : p ≤ 40 := hp.lt_iff.1 hC
  have hCw : C < wpow 39 := wpow_big (Nat.lt_of_lt_of_le hC (by decide))
  have hprec := fun W (h : Fresh w W) => bprec_any g C p v W (hG.fresh (fresh_trans hf0 h)) (hP.fresh (fresh_trans hf0 h)) hp (Nat.lt_of_lt_of_le hC (Nat.pow_le_pow_right (by omega) (by omega))) (hz.fresh h)
  obtain ⟨b, hb⟩ : ∃ b, b = w.heap.size := ⟨_, rfl⟩
  have bx := box1 w #[.bool false, .int .i8 0, .int .u64 0] 62 b hb
  have hw1 : IntKind.i64.wrap ((p : Int) - (S : Int)) = (p : Int) - (S : Int) := by rw [IntKind.wrap_i64]; omega
  have hw2 : IntKind.i64.wrap (19 - (ms : Int)) = 19 - (ms : Int) := by rw [IntKind.wrap_i64]; omega
  have t1 : decide (19 - (ms : Int) < (p : Int) - (S : Int)) = false := decide_eq_false (by omega)
  have t1n : ¬ (19 - (ms : Int) < (p : Int) - (S : Int)) := by omega
  have u1 : decide ((S : Int) < (ms : Int)) = false := decide_eq_false (by omega)
  have u1n : ¬ S < ms := by omega
  have u2 : decide ((p : Int) ≤ (S : Int)) = false := decide_eq_false (by omega)
  have u2n : ¬ p ≤ S := by omega
  have u3 : decide ((S : Int) < (p : Int)) = true := decide_eq_true (by omega)
  have u3n : S < p := h1
  have u4 : decide (19 < (p : Int)) = true := decide_eq_true (by omega)
  have hsub : (p : Int) - 19 = ((p - 19 : Nat) : Int) := by omega
  obtain ⟨j, hj⟩ : ∃ j, j = p - 19 := ⟨_, rfl⟩
  rw [← hj] at hsub hcd
  have hjw : IntKind.i64.wrap (j : Int) = (j : Int) := wrap_nat j (by omega)
  have hop := fun W (h : Fresh w W) => brsh_any w0 W g C j v hG hP (fresh_trans hf0 h) hgl hvl hCw (by omega) (by omega) (hz.fresh h)
  have hw3 : IntKind.i64.wrap (19 - (p : Int)) = 19 - (p : Int) := by rw [IntKind.wrap_i64]; omega
  have hsD : (19 - (p : Int)) + (S : Int) = ((19 + S - p : Nat) : Int) := by omega
  obtain ⟨s, hs⟩ : ∃ s, s = 19 + S - p := ⟨_, rfl⟩
  rw [← hs] at hsD ⊢
  have hs19 : s ≤ 19 := by omega
  have hw4 : IntKind.i64.wrap (s : Int) = (s : Int) := wrap_nat s (by omega)
  have hcw : c < wpow 39 := wpow_big (by omega)
  have hpc := fun W u (h : Fresh w0 W) (hu : BI W g u c) => hasPrec20 g c u W (hG.fresh h) (hP.fresh h) hcw hu
  rw [decide_eq_false (show ¬ 10000000000000000000 ≤ c by omega)] at hpc
  have hfi := fun W u (hu : BI W g u c) => bfint_any g c u W (by omega) hu
  have hsafe := fun W => newSafe_any neg s c W (by omega) hcl
  rw [← hcd] at hop
  clear hG hP hp hC hS hms hA hB hp40 hCw hcw h1 h2 h3 hcd hj hs19 hs
  have H_bx := Lib.hid bx; clear bx
  have H_hprec := Lib.hid hprec; clear hprec
  have H_hz := Lib.hid hz; clear hz
  have H_hpc := Lib.hid hpc; clear hpc
  have H_hf0 := Lib.hid hf0; clear hf0
  have H_hgl := Lib.hid hgl; clear hgl
  have H_hvl := Lib.hid hvl; clear hvl
  have H_hfi := Lib.hid hfi; clear hfi
  have H_hsafe := Lib.hid hsafe; clear hsafe
  have H_hop := Lib.hid hop; clear hop
  have H_hcl := Lib.hid hcl; clear hcl
  go_enter Tryz.func120, Tryz.ntmps120
  go_wp2_with (fail)
  generalize hwx : w.alloc _ = w1
  rw [← hb]
  obtain ⟨b1, hf⟩ := H_bx.out w1 hwx
  have H_b1 := Lib.hid b1; clear b1
  have H_hf := Lib.hid hf; clear hf
  have H_hwx := Lib.hid hwx; clear hwx
  have H_hb := Lib.hid hb; clear hb
  go_wp2_with (fail)
  refine (H_hprec.out _ H_hf.out).mono ?_
  rintro e w2 ⟨rfl, f2⟩
  have hf2 := fresh_trans H_hf.out f2
  have b2 := row_fresh H_b1.out f2
  have H_f2 := Lib.hid f2; clear f2
  have H_hf2 := Lib.hid hf2; clear hf2
  have H_b2 := Lib.hid b2; clear b2
  clear H_b1
  go_wp2_with (fail)
  refine (H_hop.out _ H_hf2.out).mono ?_
  rintro e w3 ⟨rfl, u, z3, k23, o23⟩
  have k3 : Keep (fun k => k = g ∨ v.ownBlock = some k) w w3 := H_hf2.out.trans k23 (fun _ _ h => h.elim) (fun _ _ h => h)
  have f3 : Fresh w0 w3 := H_hf0.out.trans k3 (fun _ _ h => h) (fun k hk h => by
    rcases h with rfl | h
    · have := H_hgl.out; omega
    · have := H_hvl.out k h; omega)
  have hgb : g ≠ b ∧ v.ownBlock ≠ some b := ⟨by have := H_hz.out.lt; have := H_hb.out; omega, fun h => by have := H_hz.out.own_lt h; have := H_hb.out; omega⟩
  have b3 := row_keep H_b2.out k23 (fun h => h.elim (fun h => hgb.1 h.symm) hgb.2)
  have o3 : ∀ k, (u).ownBlock = some k → v.ownBlock = some k ∨ w.heap.size ≤ k := fun k hk => (o23 k hk).elim .inl (fun h => .inr (Nat.le_trans H_hf2.out.size h))
  have hub : (u).ownBlock ≠ some b := fun h => by
    rcases o23 b h with h | h
    · exact hgb.2 h
    · have := H_hb.out; have := H_f2.out.size; have := H_hf.out.size; exact absurd (row_lt H_b2.out) (by omega)
  have H_z3 := Lib.hid z3; clear z3
  have H_k23 := Lib.hid k23; clear k23
  have H_o23 := Lib.hid o23; clear o23
  have H_k3 := Lib.hid k3; clear k3
  have H_f3 := Lib.hid f3; clear f3
  have H_b3 := Lib.hid b3; clear b3
  have H_o3 := Lib.hid o3; clear o3
  have H_hub := Lib.hid hub; clear hub
  have H_hgb := Lib.hid hgb; clear hgb
  go_wp2_with (fail)
  refine (H_hpc.out _ _ H_f3.out H_z3.out).mono ?_
  rintro e w4 ⟨rfl, f4⟩
  have z4 := H_z3.out.fresh f4
  have b4 := row_fresh H_b3.out f4
  have k4 := H_k3.out.trans f4 (fun _ _ h => h) (fun _ _ h => h.elim)
  have f04 := fresh_trans H_f3.out f4
  have H_z4 := Lib.hid z4; clear z4
  have H_b4 := Lib.hid b4; clear b4
  have H_k4 := Lib.hid k4; clear k4
  have H_f4 := Lib.hid f4; clear f4
  have H_f04 := Lib.hid f04; clear f04
  go_wp2_with (fail)
  refine (H_hfi.out _ _ H_z4.out).mono ?_
  rintro e w5 ⟨rfl, e5⟩
  subst w5
  go_wp2_with (fail)
  refine (H_hsafe.out _).mono ?_
  rintro e w6 ⟨rfl, f6⟩
  have b6 := row_fresh H_b4.out f6
  have p0 := row_cell b6 0
  have p1 := row_cell b6 1
  have p2 := row_cell b6 2
  simp at p0 p1 p2
  have z0 : w6.frozen? ⟨b, 0, none⟩ = false := frozen_of_row _ _ _ _ _ b6
  have z1 : w6.frozen? ⟨b, 1, none⟩ = false := frozen_of_row _ _ _ _ _ b6
  have z2 : w6.frozen? ⟨b, 2, none⟩ = false := frozen_of_row _ _ _ _ _ b6
  obtain ⟨bn, hbn⟩ : ∃ b, b = (neg && decide (0 < c)) := ⟨_, rfl⟩
  rw [← hbn]
  have H_b6 := Lib.hid b6; clear b6
  have H_f6 := Lib.hid f6; clear f6
  have H_hbn := Lib.hid hbn; clear hbn
  go_wp2_with (fail)
  refine bodyPost_ret (results_cell_tmp_row rfl _ _ b 62 #[.bool bn, .int .i8 s, .int .u64 c] (0, 0) _ rfl (row_set (row_set (row_set H_b6.out))) Tryz.underlying62 rfl (by kernel_rfl)) rfl ?_
  exact ⟨_, by rw [← H_hbn.out]; rfl, rfl, Keep.set3 (H_k4.out.trans H_f6.out (fun _ _ h => h) (fun _ _ h => h.elim)) (by have := H_hb.out; omega)⟩

set_option maxRecDepth 20000 in
set_option maxHeartbeats 4000000 in
theorem newFromBint_E (w0 w : World) (neg : Bool) (g C p S ms : Nat) (v : Value) (hG : Glob w0) (hP : Pow10s w0) (hf0 : Fresh w0 w) (hgl : w0.heap.size ≤ g) (hvl : ∀ k, v.ownBlock = some k → w0.heap.size ≤ k)
    (hp : IsPrec C p) (hC : C < 10 ^ 40) (hS : S ≤ 38) (hms : ms ≤ 19) (hz : BI w g v C) (hB : ms ≤ S) (hA : p + ms ≤ 19 + S) (h1 : S ≤ 19) (h2 : p ≤ 19) (hcl : C ≤ 9999999999999999999) :
    Calls Tryz.prog 120 #[.bool neg, .pointer (some ⟨g, 0, none⟩), .int .i64 S, .int .i64 ms] w (NBOut w g v (neg && decide (0 < C)) S C NoErr) := by
  have hp40 : p ≤ 40 := hp.lt_iff.1 hC
  have hCw : C < wpow 39 := wpow_big (Nat.lt_of_lt_of_le hC (by decide))
  have hprec := fun W (h : Fresh w W) => bprec_any g C p v W (hG.fresh (fresh_trans hf0 h)) (hP.fresh (fresh_trans hf0 h)) hp (Nat.lt_of_lt_of_le hC (Nat.pow_le_pow_right (by omega) (by omega))) (hz.fresh h)
  obtain ⟨b, hb⟩ : ∃ b, b = w.heap.size := ⟨_, rfl⟩
  have bx := box1 w #[.bool false, .int .i8 0, .int .u64 0] 62 b hb
  have hw1 : IntKind.i64.wrap ((p : Int) - (S : Int)) = (p : Int) - (S : Int) := by rw [IntKind.wrap_i64]; omega
  have hw2 : IntKind.i64.wrap (19 - (ms : Int)) = 19 - (ms : Int) := by rw [IntKind.wrap_i64]; omega
  have t1 : decide (19 - (ms : Int) < (p : Int) - (S : Int)) = false := decide_eq_false (by omega)
  have t1n : ¬ (19 - (ms : Int) < (p : Int) - (S : Int)) := by omega
  have u1 : decide ((S : Int) < (ms : Int)) = false := decide_eq_false (by omega)
  have u1n : ¬ S < ms := by omega
  have hcw : C < wpow 39 := wpow_big (by omega)
  have hpc := fun W u (h : Fresh w0 W) (hu : BI W g u C) => hasPrec20 g C u W (hG.fresh h) (hP.fresh h) hcw hu
  rw [decide_eq_false (show ¬ 10000000000000000000 ≤ C by omega)] at hpc
  have hfi := fun W u (hu : BI W g u C) => bfint_any g C u W (by omega) hu
  have hsafe := fun W => newSafe_any neg S C W (by omega) hcl
  have hE : (decide ((p : Int) ≤ (S : Int)) = true ∧ p ≤ S ∧ decide (19 < (S : Int)) = false ∧ decide ((S : Int) < (p : Int)) = false ∧ ¬ S < p) ∨ (decide ((p : Int) ≤ (S : Int)) = false ∧ ¬ p ≤ S ∧ decide ((S : Int) < (p : Int)) = true ∧ S < p ∧ decide (19 < (p : Int)) = false) := by
    rcases Nat.lt_or_ge S p with h | h
    · exact .inr ⟨decide_eq_false (by omega), by omega, decide_eq_true (by omega), h, decide_eq_false (by omega)⟩
    · exact .inl ⟨decide_eq_true (by omega), h, decide_eq_false (by omega), decide_eq_false (by omega), by omega⟩
  clear hG hP hp hC hS hms hA hB hp40 hCw hcw h1 h2
  have H_bx := Lib.hid bx; clear bx
  have H_hprec := Lib.hid hprec; clear hprec
  have H_hz := Lib.hid hz; clear hz
  have H_hpc := Lib.hid hpc; clear hpc
  have H_hf0 := Lib.hid hf0; clear hf0
  have H_hgl := Lib.hid hgl; clear hgl
  have H_hvl := Lib.hid hvl; clear hvl
  have H_hfi := Lib.hid hfi; clear hfi
  have H_hsafe := Lib.hid hsafe; clear hsafe
  have H_hcl := Lib.hid hcl; clear hcl
  go_enter Tryz.func120, Tryz.ntmps120
  go_wp2_with (fail)
  generalize hwx : w.alloc _ = w1
  rw [← hb]
  obtain ⟨b1, hf⟩ := H_bx.out w1 hwx
  have H_b1 := Lib.hid b1; clear b1
  have H_hf := Lib.hid hf; clear hf
  have H_hwx := Lib.hid hwx; clear hwx
  have H_hb := Lib.hid hb; clear hb
  go_wp2_with (fail)
  refine (H_hprec.out _ H_hf.out).mono ?_
  rintro e w2 ⟨rfl, f2⟩
  have hf2 := fresh_trans H_hf.out f2
  have b2 := row_fresh H_b1.out f2
  have H_f2 := Lib.hid f2; clear f2
  have H_hf2 := Lib.hid hf2; clear hf2
  have H_b2 := Lib.hid b2; clear b2
  clear H_b1
  have z3 := H_hz.out.fresh H_hf2.out
  have k23 : Keep (fun k => k = g ∨ v.ownBlock = some k) w2 w2 := Keep.refl _ _
  have o23 : ∀ k, v.ownBlock = some k → v.ownBlock = some k ∨ w2.heap.size ≤ k := fun _ h => .inl h
  have k3 : Keep (fun k => k = g ∨ v.ownBlock = some k) w w2 := H_hf2.out.trans k23 (fun _ _ h => h.elim) (fun _ _ h => h)
  have f3 : Fresh w0 w2 := H_hf0.out.trans k3 (fun _ _ h => h) (fun k hk h => by
    rcases h with rfl | h
    · have := H_hgl.out; omega
    · have := H_hvl.out k h; omega)
  have hgb : g ≠ b ∧ v.ownBlock ≠ some b := ⟨by have := H_hz.out.lt; have := H_hb.out; omega, fun h => by have := H_hz.out.own_lt h; have := H_hb.out; omega⟩
  have b3 := row_keep H_b2.out k23 (fun h => h.elim (fun h => hgb.1 h.symm) hgb.2)
  have o3 : ∀ k, (v).ownBlock = some k → v.ownBlock = some k ∨ w.heap.size ≤ k := fun k hk => (o23 k hk).elim .inl (fun h => .inr (Nat.le_trans H_hf2.out.size h))
  have hub : (v).ownBlock ≠ some b := fun h => by
    rcases o23 b h with h | h
    · exact hgb.2 h
    · have := H_hb.out; have := H_f2.out.size; have := H_hf.out.size; exact absurd (row_lt H_b2.out) (by omega)
  have H_z3 := Lib.hid z3; clear z3
  have H_k23 := Lib.hid k23; clear k23
  have H_o23 := Lib.hid o23; clear o23
  have H_k3 := Lib.hid k3; clear k3
  have H_f3 := Lib.hid f3; clear f3
  have H_b3 := Lib.hid b3; clear b3
  have H_o3 := Lib.hid o3; clear o3
  have H_hub := Lib.hid hub; clear hub
  have H_hgb := Lib.hid hgb; clear hgb
  rcases hE with ⟨q1, q2, q3, q4, q5⟩ | ⟨q1, q2, q3, q4, q5⟩
  · go_wp2_with (fail)
    refine (H_hpc.out _ _ H_f3.out H_z3.out).mono ?_
    rintro e w4 ⟨rfl, f4⟩
    have z4 := H_z3.out.fresh f4
    have b4 := row_fresh H_b3.out f4
    have k4 := H_k3.out.trans f4 (fun _ _ h => h) (fun _ _ h => h.elim)
    have f04 := fresh_trans H_f3.out f4
    have H_z4 := Lib.hid z4; clear z4
    have H_b4 := Lib.hid b4; clear b4
    have H_k4 := Lib.hid k4; clear k4
    have H_f4 := Lib.hid f4; clear f4
    have H_f04 := Lib.hid f04; clear f04
    go_wp2_with (fail)
    refine (H_hfi.out _ _ H_z4.out).mono ?_
    rintro e w5 ⟨rfl, e5⟩
    subst w5
    go_wp2_with (fail)
    refine (H_hsafe.out _).mono ?_
    rintro e w6 ⟨rfl, f6⟩
    have b6 := row_fresh H_b4.out f6
    have p0 := row_cell b6 0
    have p1 := row_cell b6 1
    have p2 := row_cell b6 2
    simp at p0 p1 p2
    have z0 : w6.frozen? ⟨b, 0, none⟩ = false := frozen_of_row _ _ _ _ _ b6
    have z1 : w6.frozen? ⟨b, 1, none⟩ = false := frozen_of_row _ _ _ _ _ b6
    have z2 : w6.frozen? ⟨b, 2, none⟩ = false := frozen_of_row _ _ _ _ _ b6
    obtain ⟨bn, hbn⟩ : ∃ b, b = (neg && decide (0 < C)) := ⟨_, rfl⟩
    rw [← hbn]
    have H_b6 := Lib.hid b6; clear b6
    have H_f6 := Lib.hid f6; clear f6
    have H_hbn := Lib.hid hbn; clear hbn
    go_wp2_with (fail)
    refine bodyPost_ret (results_cell_tmp_row rfl _ _ b 62 #[.bool bn, .int .i8 S, .int .u64 C] (0, 0) _ rfl (row_set (row_set (row_set H_b6.out))) Tryz.underlying62 rfl (by kernel_rfl)) rfl ?_
    exact ⟨_, by rw [← H_hbn.out]; rfl, rfl, Keep.set3 (H_k4.out.trans H_f6.out (fun _ _ h => h) (fun _ _ h => h.elim)) (by have := H_hb.out; omega)⟩
  · go_wp2_with (fail)
    refine (H_hpc.out _ _ H_f3.out H_z3.out).mono ?_
    rintro e w4 ⟨rfl, f4⟩
    have z4 := H_z3.out.fresh f4
    have b4 := row_fresh H_b3.out f4
    have k4 := H_k3.out.trans f4 (fun _ _ h => h) (fun _ _ h => h.elim)
    have f04 := fresh_trans H_f3.out f4
    have H_z4 := Lib.hid z4; clear z4
    have H_b4 := Lib.hid b4; clear b4
    have H_k4 := Lib.hid k4; clear k4
    have H_f4 := Lib.hid f4; clear f4
    have H_f04 := Lib.hid f04; clear f04
    go_wp2_with (fail)
    refine (H_hfi.out _ _ H_z4.out).mono ?_
    rintro e w5 ⟨rfl, e5⟩
    subst w5
    go_wp2_with (fail)
    refine (H_hsafe.out _).mono ?_
    rintro e w6 ⟨rfl, f6⟩
    have b6 := row_fresh H_b4.out f6
    have p0 := row_cell b6 0
    have p1 := row_cell b6 1
    have p2 := row_cell b6 2
    simp at p0 p1 p2
    have z0 : w6.frozen? ⟨b, 0, none⟩ = false := frozen_of_row _ _ _ _ _ b6
    have z1 : w6.frozen? ⟨b, 1, none⟩ = false := frozen_of_row _ _ _ _ _ b6
    have z2 : w6.frozen? ⟨b, 2, none⟩ = false := frozen_of_row _ _ _ _ _ b6
    obtain ⟨bn, hbn⟩ : ∃ b, b = (neg && decide (0 < C)) := ⟨_, rfl⟩
    rw [← hbn]
    have H_b6 := Lib.hid b6; clear b6
    have H_f6 := Lib.hid f6; clear f6
    have H_hbn := Lib.hid hbn; clear hbn
    go_wp2_with (fail)
    refine bodyPost_ret (results_cell_tmp_row rfl _ _ b 62 #[.bool bn, .int .i8 S, .int .u64 C] (0, 0) _ rfl (row_set (row_set (row_set H_b6.out))) Tryz.underlying62 rfl (by kernel_rfl)) rfl ?_
    exact ⟨_, by rw [← H_hbn.out]; rfl, rfl, Keep.set3 (H_k4.out.trans H_f6.out (fun _ _ h => h) (fun _ _ h => h.elim)) (by have := H_hb.out; omega)⟩

set_option maxRecDepth 20000 in
set_option maxHeartbeats 4000000 in
theorem newFromBint_C2 (w0 w : World) (neg : Bool) (g C p S ms : Nat) (v : Value) (hG : Glob w0) (hP : Pow10s w0) (hf0 : Fresh w0 w) (hgl : w0.heap.size ≤ g) (hvl : ∀ k, v.ownBlock = some k → w0.heap.size ≤ k)
    (hp : IsPrec C p) (hC : C < 10 ^ 40) (hS : S ≤ 38) (hms : ms ≤ 19) (hz : BI w g v C) (hB : ms ≤ S) (hA : p + ms ≤ 19 + S) (h1 : p ≤ S) (h2 : 19 < S) (c : Nat) (hcd : c = rhe C (10 ^ (S - 19))) (hcl : c = 10000000000000000000) (nz : Bool) (sz cz : Nat) (Pv : Value → Prop)
    (hrec : ∀ W u, Fresh w0 W → (∀ k, u.ownBlock = some k → w0.heap.size ≤ k) → BI W g u c → Calls Tryz.prog 120 #[.bool neg, .pointer (some ⟨g, 0, none⟩), .int .i64 (19 : Nat), .int .i64 ms] W (NBOut W g u nz sz cz Pv)) :
    Calls Tryz.prog 120 #[.bool neg, .pointer (some ⟨g, 0, none⟩), .int .i64 S, .int .i64 ms] w (NBOut w g v nz sz cz Pv) := by
  have hp40 : p ≤ 40 := hp.lt_iff.1 hC
  have hCw : C < wpow 39 := wpow_big (Nat.lt_of_lt_of_le hC (by decide))
  have hprec := fun W (h : Fresh w W) => bprec_any g C p v W (hG.fresh (fresh_trans hf0 h)) (hP.fresh (fresh_trans hf0 h)) hp (Nat.lt_of_lt_of_le hC (Nat.pow_le_pow_right (by omega) (by omega))) (hz.fresh h)
  obtain ⟨b, hb⟩ : ∃ b, b = w.heap.size := ⟨_, rfl⟩
  have bx := box1 w #[.bool false, .int .i8 0, .int .u64 0] 62 b hb
  have hw1 : IntKind.i64.wrap ((p : Int) - (S : Int)) = (p : Int) - (S : Int) := by rw [IntKind.wrap_i64]; omega
  have hw2 : IntKind.i64.wrap (19 - (ms : Int)) = 19 - (ms : Int) := by rw [IntKind.wrap_i64]; omega
  have t1 : decide (19 - (ms : Int) < (p : Int) - (S : Int)) = false := decide_eq_false (by omega)
  have t1n : ¬ (19 - (ms : Int) < (p : Int) - (S : Int)) := by omega
  have u1 : decide ((S : Int) < (ms : Int)) = false := decide_eq_false (by omega)
  have u1n : ¬ S < ms := by omega
  have u2 : decide ((p : Int) ≤ (S : Int)) = true := decide_eq_true (by omega)
  have u2n : p ≤ S := h1
  have u3 : decide (19 < (S : Int)) = true := decide_eq_true (by omega)
  have hsub : (S : Int) - 19 = ((S - 19 : Nat) : Int) := by omega
  obtain ⟨j, hj⟩ : ∃ j, j = S - 19 := ⟨_, rfl⟩
  rw [← hj] at hsub hcd
  have hjw : IntKind.i64.wrap (j : Int) = (j : Int) := wrap_nat j (by omega)
  have hop := fun W (h : Fresh w W) => brsh_any w0 W g C j v hG hP (fresh_trans hf0 h) hgl hvl hCw (by omega) (by omega) (hz.fresh h)
  have hcw : c < wpow 39 := wpow_big (by omega)
  have hpc := fun W u (h : Fresh w0 W) (hu : BI W g u c) => hasPrec20 g c u W (hG.fresh h) (hP.fresh h) hcw hu
  rw [decide_eq_true (show 10000000000000000000 ≤ c by omega)] at hpc
  rw [← hcd] at hop
  clear hG hP hp hC hS hms hA hB hp40 hCw hcw h1 h2 hcd hj
  have H_bx := Lib.hid bx; clear bx
  have H_hprec := Lib.hid hprec; clear hprec
  have H_hz := Lib.hid hz; clear hz
  have H_hpc := Lib.hid hpc; clear hpc
  have H_hf0 := Lib.hid hf0; clear hf0
  have H_hgl := Lib.hid hgl; clear hgl
  have H_hvl := Lib.hid hvl; clear hvl
  have H_hrec := Lib.hid hrec; clear hrec
  have H_hop := Lib.hid hop; clear hop
  have H_hcl := Lib.hid hcl; clear hcl
  go_enter Tryz.func120, Tryz.ntmps120
  go_wp2_with (fail)
  generalize hwx : w.alloc _ = w1
  rw [← hb]
  obtain ⟨b1, hf⟩ := H_bx.out w1 hwx
  have H_b1 := Lib.hid b1; clear b1
  have H_hf := Lib.hid hf; clear hf
  have H_hwx := Lib.hid hwx; clear hwx
  have H_hb := Lib.hid hb; clear hb
  go_wp2_with (fail)
  refine (H_hprec.out _ H_hf.out).mono ?_
  rintro e w2 ⟨rfl, f2⟩
  have hf2 := fresh_trans H_hf.out f2
  have b2 := row_fresh H_b1.out f2
  have H_f2 := Lib.hid f2; clear f2
  have H_hf2 := Lib.hid hf2; clear hf2
  have H_b2 := Lib.hid b2; clear b2
  clear H_b1
  go_wp2_with (fail)
  refine (H_hop.out _ H_hf2.out).mono ?_
  rintro e w3 ⟨rfl, u, z3, k23, o23⟩
  have k3 : Keep (fun k => k = g ∨ v.ownBlock = some k) w w3 := H_hf2.out.trans k23 (fun _ _ h => h.elim) (fun _ _ h => h)
  have f3 : Fresh w0 w3 := H_hf0.out.trans k3 (fun _ _ h => h) (fun k hk h => by
    rcases h with rfl | h
    · have := H_hgl.out; omega
    · have := H_hvl.out k h; omega)
  have hgb : g ≠ b ∧ v.ownBlock ≠ some b := ⟨by have := H_hz.out.lt; have := H_hb.out; omega, fun h => by have := H_hz.out.own_lt h; have := H_hb.out; omega⟩
  have b3 := row_keep H_b2.out k23 (fun h => h.elim (fun h => hgb.1 h.symm) hgb.2)
  have o3 : ∀ k, (u).ownBlock = some k → v.ownBlock = some k ∨ w.heap.size ≤ k := fun k hk => (o23 k hk).elim .inl (fun h => .inr (Nat.le_trans H_hf2.out.size h))
  have hub : (u).ownBlock ≠ some b := fun h => by
    rcases o23 b h with h | h
    · exact hgb.2 h
    · have := H_hb.out; have := H_f2.out.size; have := H_hf.out.size; exact absurd (row_lt H_b2.out) (by omega)
  have H_z3 := Lib.hid z3; clear z3
  have H_k23 := Lib.hid k23; clear k23
  have H_o23 := Lib.hid o23; clear o23
  have H_k3 := Lib.hid k3; clear k3
  have H_f3 := Lib.hid f3; clear f3
  have H_b3 := Lib.hid b3; clear b3
  have H_o3 := Lib.hid o3; clear o3
  have H_hub := Lib.hid hub; clear hub
  have H_hgb := Lib.hid hgb; clear hgb
  go_wp2_with (fail)
  refine (H_hpc.out _ _ H_f3.out H_z3.out).mono ?_
  rintro e w4 ⟨rfl, f4⟩
  have z4 := H_z3.out.fresh f4
  have b4 := row_fresh H_b3.out f4
  have k4 := H_k3.out.trans f4 (fun _ _ h => h) (fun _ _ h => h.elim)
  have f04 := fresh_trans H_f3.out f4
  have H_z4 := Lib.hid z4; clear z4
  have H_b4 := Lib.hid b4; clear b4
  have H_k4 := Lib.hid k4; clear k4
  have H_f4 := Lib.hid f4; clear f4
  have H_f04 := Lib.hid f04; clear f04
  go_wp2_with (fail)
  refine (H_hrec.out w4 _ H_f04.out (fun k hk => (H_o3.out k hk).elim (fun h => H_hvl.out k h) (fun h => Nat.le_trans H_hf0.out.size h)) H_z4.out).mono ?_
  rintro e w5 ⟨ev, rfl, hpv, k45⟩
  have b5 := row_keep H_b4.out k45 (fun h => h.elim (fun h => H_hgb.out.1 h.symm) H_hub.out)
  have k5 : Keep (fun k => k = g ∨ v.ownBlock = some k) w w5 := H_k4.out.trans k45 (fun _ _ h => h) (fun k hk h => by
    rcases h with h | h
    · exact .inl h
    · rcases H_o3.out k h with h | h
      · exact .inr h
      · omega)
  have p0 := row_cell b5 0
  have p1 := row_cell b5 1
  have p2 := row_cell b5 2
  simp at p0 p1 p2
  have z0 : w5.frozen? ⟨b, 0, none⟩ = false := frozen_of_row _ _ _ _ _ b5
  have z1 : w5.frozen? ⟨b, 1, none⟩ = false := frozen_of_row _ _ _ _ _ b5
  have z2 : w5.frozen? ⟨b, 2, none⟩ = false := frozen_of_row _ _ _ _ _ b5
  have H_hpv := Lib.hid hpv; clear hpv
  have H_k45 := Lib.hid k45; clear k45
  have H_b5 := Lib.hid b5; clear b5
  have H_k5 := Lib.hid k5; clear k5
  go_wp2_with (fail)
  refine bodyPost_ret (results_cell_tmp_row rfl _ _ b 62 #[.bool nz, .int .i8 sz, .int .u64 cz] (0, 0) _ rfl (row_set (row_set (row_set H_b5.out))) Tryz.underlying62 rfl (by kernel_rfl)) rfl ?_
  exact ⟨ev, rfl, H_hpv.out, Keep.set3 H_k5.out (by have := H_hb.out; omega)⟩

set_option maxRecDepth 20000 in
set_option maxHeartbeats 4000000 in
theorem newFromBint_D2 (w0 w : World) (neg : Bool) (g C p S ms : Nat) (v : Value) (hG : Glob w0) (hP : Pow10s w0) (hf0 : Fresh w0 w) (hgl : w0.heap.size ≤ g) (hvl : ∀ k, v.ownBlock = some k → w0.heap.size ≤ k)
    (hp : IsPrec C p) (hC : C < 10 ^ 40) (hS : S ≤ 38) (hms : ms ≤ 19) (hz : BI w g v C) (hB : ms ≤ S) (hA : p + ms ≤ 19 + S) (h1 : S < p) (h2 : 19 < p) (h3 : p ≤ 38) (c : Nat) (hcd : c = rhe C (10 ^ (p - 19))) (hcl : c = 10000000000000000000) (nz : Bool) (sz cz : Nat) (Pv : Value → Prop)
    (hrec : ∀ W u, Fresh w0 W → (∀ k, u.ownBlock = some k → w0.heap.size ≤ k) → BI W g u c → Calls Tryz.prog 120 #[.bool neg, .pointer (some ⟨g, 0, none⟩), .int .i64 ((19 + S - p) : Nat), .int .i64 ms] W (NBOut W g u nz sz cz Pv)) :
    Calls Tryz.prog 120 #[.bool neg, .pointer (some ⟨g, 0, none⟩), .int .i64 S, .int .i64 ms] w (NBOut w g v nz sz cz Pv) := by
  have hp40 : p ≤ 40 := hp.lt_iff.1 hC
  have hCw : C < wpow 39 := wpow_big (Nat.lt_of_lt_of_le hC (by decide))
  have hprec := fun W (h : Fresh w W) => bprec_any g C p v W (hG.fresh (fresh_trans hf0 h)) (hP.fresh (fresh_trans hf0 h)) hp (Nat.lt_of_lt_of_le hC (Nat.pow_le_pow_right (by omega) (by omega))) (hz.fresh h)
  obtain ⟨b, hb⟩ : ∃ b, b = w.heap.size := ⟨_, rfl⟩
  have bx := box1 w #[.bool false, .int .i8 0, .int .u64 0] 62 b hb
  have hw1 : IntKind.i64.wrap ((p : Int) - (S : Int)) = (p : Int) - (S : Int) := by rw [IntKind.wrap_i64]; omega
  have hw2 : IntKind.i64.wrap (19 - (ms : Int)) = 19 - (ms : Int) := by rw [IntKind.wrap_i64]; omega
  have t1 : decide (19 - (ms : Int) < (p : Int) - (S : Int)) = false := decide_eq_false (by omega)
  have t1n : ¬ (19 - (ms : Int) < (p : Int) - (S : Int)) := by omega
  have u1 : decide ((S : Int) < (ms : Int)) = false := decide_eq_false (by omega)
  have u1n : ¬ S < ms := by omega
  have u2 : decide ((p : Int) ≤ (S : Int)) = false := decide_eq_false (by omega)
  have u2n : ¬ p ≤ S := by omega
  have u3 : decide ((S : Int) < (p : Int)) = true := decide_eq_true (by omega)
  have u3n : S < p := h1
  have u4 : decide (19 < (p : Int)) = true := decide_eq_true (by omega)
  have hsub : (p : Int) - 19 = ((p - 19 : Nat) : Int) := by omega
  obtain ⟨j, hj⟩ : ∃ j, j = p - 19 := ⟨_, rfl⟩
  rw [← hj] at hsub hcd
  have hjw : IntKind.i64.wrap (j : Int) = (j : Int) := wrap_nat j (by omega)
  have hop := fun W (h : Fresh w W) => brsh_any w0 W g C j v hG hP (fresh_trans hf0 h) hgl hvl hCw (by omega) (by omega) (hz.fresh h)
  have hw3 : IntKind.i64.wrap (19 - (p : Int)) = 19 - (p : Int) := by rw [IntKind.wrap_i64]; omega
  have hsD : (19 - (p : Int)) + (S : Int) = ((19 + S - p : Nat) : Int) := by omega
  obtain ⟨s, hs⟩ : ∃ s, s = 19 + S - p := ⟨_, rfl⟩
  rw [← hs] at hsD hrec
  have hs19 : s ≤ 19 := by omega
  have hw4 : IntKind.i64.wrap (s : Int) = (s : Int) := wrap_nat s (by omega)
  have hcw : c < wpow 39 := wpow_big (by omega)
  have hpc := fun W u (h : Fresh w0 W) (hu : BI W g u c) => hasPrec20 g c u W (hG.fresh h) (hP.fresh h) hcw hu
  rw [decide_eq_true (show 10000000000000000000 ≤ c by omega)] at hpc
  rw [← hcd] at hop
  clear hG hP hp hC hS hms hA hB hp40 hCw hcw h1 h2 h3 hcd hj hs19 hs
  have H_bx := Lib.hid bx; clear bx
  have H_hprec := Lib.hid hprec; clear hprec
  have H_hz := Lib.hid hz; clear hz
  have H_hpc := Lib.hid hpc; clear hpc
  have H_hf0 := Lib.hid hf0; clear hf0
  have H_hgl := Lib.hid hgl; clear hgl
  have H_hvl := Lib.hid hvl; clear hvl
  have H_hrec := Lib.hid hrec; clear hrec
  have H_hop := Lib.hid hop; clear hop
  have H_hcl := Lib.hid hcl; clear hcl
  go_enter Tryz.func120, Tryz.ntmps120
  go_wp2_with (fail)
  generalize hwx : w.alloc _ = w1
  rw [← hb]
  obtain ⟨b1, hf⟩ := H_bx.out w1 hwx
  have H_b1 := Lib.hid b1; clear b1
  have H_hf := Lib.hid hf; clear hf
  have H_hwx := Lib.hid hwx; clear hwx
  have H_hb := Lib.hid hb; clear hb
  go_wp2_with (fail)
  refine (H_hprec.out _ H_hf.out).mono ?_
  rintro e w2 ⟨rfl, f2⟩
  have hf2 := fresh_trans H_hf.out f2
  have b2 := row_fresh H_b1.out f2
  have H_f2 := Lib.hid f2; clear f2
  have H_hf2 := Lib.hid hf2; clear hf2
  have H_b2 := Lib.hid b2; clear b2
  clear H_b1
  go_wp2_with (fail)
  refine (H_hop.out _ H_hf2.out).mono ?_
  rintro e w3 ⟨rfl, u, z3, k23, o23⟩
  have k3 : Keep (fun k => k = g ∨ v.ownBlock = some k) w w3 := H_hf2.out.trans k23 (fun _ _ h => h.elim) (fun _ _ h => h)
  have f3 : Fresh w0 w3 := H_hf0.out.trans k3 (fun _ _ h => h) (fun k hk h => by
    rcases h with rfl | h
    · have := H_hgl.out; omega
    · have := H_hvl.out k h; omega)
  have hgb : g ≠ b ∧ v.ownBlock ≠ some b := ⟨by have := H_hz.out.lt; have := H_hb.out; omega, fun h => by have := H_hz.out.own_lt h; have := H_hb.out; omega⟩
  have b3 := row_keep H_b2.out k23 (fun h => h.elim (fun h => hgb.1 h.symm) hgb.2)
  have o3 : ∀ k, (u).ownBlock = some k → v.ownBlock = some k ∨ w.heap.size ≤ k := fun k hk => (o23 k hk).elim .inl (fun h => .inr (Nat.le_trans H_hf2.out.size h))
  have hub : (u).ownBlock ≠ some b := fun h => by
    rcases o23 b h with h | h
    · exact hgb.2 h
    · have := H_hb.out; have := H_f2.out.size; have := H_hf.out.size; exact absurd (row_lt H_b2.out) (by omega)
  have H_z3 := Lib.hid z3; clear z3
  have H_k23 := Lib.hid k23; clear k23
  have H_o23 := Lib.hid o23; clear o23
  have H_k3 := Lib.hid k3; clear k3
  have H_f3 := Lib.hid f3; clear f3
  have H_b3 := Lib.hid b3; clear b3
  have H_o3 := Lib.hid o3; clear o3
  have H_hub := Lib.hid hub; clear hub
  have H_hgb := Lib.hid hgb; clear hgb
  go_wp2_with (fail)
  refine (H_hpc.out _ _ H_f3.out H_z3.out).mono ?_
  rintro e w4 ⟨rfl, f4⟩
  have z4 := H_z3.out.fresh f4
  have b4 := row_fresh H_b3.out f4
  have k4 := H_k3.out.trans f4 (fun _ _ h => h) (fun _ _ h => h.elim)
  have f04 := fresh_trans H_f3.out f4
  have H_z4 := Lib.hid z4; clear z4
  have H_b4 := Lib.hid b4; clear b4
  have H_k4 := Lib.hid k4; clear k4
  have H_f4 := Lib.hid f4; clear f4
  have H_f04 := Lib.hid f04; clear f04
  go_wp2_with (fail)
  refine (H_hrec.out w4 _ H_f04.out (fun k hk => (H_o3.out k hk).elim (fun h => H_hvl.out k h) (fun h => Nat.le_trans H_hf0.out.size h)) H_z4.out).mono ?_
  rintro e w5 ⟨ev, rfl, hpv, k45⟩
  have b5 := row_keep H_b4.out k45 (fun h => h.elim (fun h => H_hgb.out.1 h.symm) H_hub.out)
  have k5 : Keep (fun k => k = g ∨ v.ownBlock = some k) w w5 := H_k4.out.trans k45 (fun _ _ h => h) (fun k hk h => by
    rcases h with h | h
    · exact .inl h
    · rcases H_o3.out k h with h | h
      · exact .inr h
      · omega)
  have p0 := row_cell b5 0
  have p1 := row_cell b5 1
  have p2 := row_cell b5 2
  simp at p0 p1 p2
  have z0 : w5.frozen? ⟨b, 0, none⟩ = false := frozen_of_row _ _ _ _ _ b5
  have z1 : w5.frozen? ⟨b, 1, none⟩ = false := frozen_of_row _ _ _ _ _ b5
  have z2 : w5.frozen? ⟨b, 2, none⟩ = false := frozen_of_row _ _ _ _ _ b5
  have H_hpv := Lib.hid hpv; clear hpv
  have H_k45 := Lib.hid k45; clear k45
  have H_b5 := Lib.hid b5; clear b5
  have H_k5 := Lib.hid k5; clear k5
  go_wp2_with (fail)
  refine bodyPost_ret (results_cell_tmp_row rfl _ _ b 62 #[.bool nz, .int .i8 sz, .int .u64 cz] (0, 0) _ rfl (row_set (row_set (row_set H_b5.out))) Tryz.underlying62 rfl (by kernel_rfl)) rfl ?_
  exact ⟨ev, rfl, H_hpv.out, Keep.set3 H_k5.out (by have := H_hb.out; omega)⟩

end Go.Proofs.YtibaeafmgncjdaaGreatDoor

/- govalues: newFromBint, all ways. -/
namespace Go.Proofs.YtibaeafmgncjdaaGreatDoor
open Go.RowKit

/-- what newFromBint returns -/
def NBRet (w : World) (g : Nat) (v : Value) (neg : Bool) (o : Option (Nat × Nat)) : Ending → World → Prop :=
  match o with
  | none => NBOut w g v false 0 0 AnErr
  | some (c, s) => NBOut w g v (neg && decide (0 < c)) s c NoErr

theorem isPrec20 : IsPrec 10000000000000000000 20 := ⟨by decide, fun _ => by decide⟩
theorem rhe20 : rhe 10000000000000000000 (10 ^ (20 - 19)) = 1000000000000000000 := by decide

theorem newFromBint_20 (w0 w : World) (neg : Bool) (g s ms : Nat) (v : Value) (hG : Glob w0) (hP : Pow10s w0) (hf0 : Fresh w0 w) (hgl : w0.heap.size ≤ g) (hvl : ∀ k, v.ownBlock = some k → w0.heap.size ≤ k)
    (hs : s ≤ 19) (hms : ms ≤ s) (hz : BI w g v 10000000000000000000) :
    Calls Tryz.prog 120 #[.bool neg, .pointer (some ⟨g, 0, none⟩), .int .i64 s, .int .i64 ms] w (NBRet w g v neg (nbStep 10000000000000000000 20 s ms)) := by
  unfold nbStep
  rcases Nat.lt_or_ge (19 + s) (20 + ms) with h | h
  · rw [if_pos h]
    exact newFromBint_no w0 w neg g _ 20 s ms v hG hP hf0 hgl hvl isPrec20 (by decide) (by omega) (by omega) hz h
  · rw [if_neg (by omega), if_neg (by omega), if_neg (by omega), if_pos (by omega)]
    rw [rhe20]
    exact newFromBint_D w0 w neg g _ 20 s ms v hG hP hf0 hgl hvl isPrec20 (by decide) (by omega) (by omega) hz hms (by omega) (by omega) (by omega) (by omega) 1000000000000000000 rhe20.symm (by omega)

theorem newFromBint_any (w0 w : World) (neg : Bool) (g C p S ms : Nat) (v : Value) (hG : Glob w0) (hP : Pow10s w0) (hf0 : Fresh w0 w) (hgl : w0.heap.size ≤ g) (hvl : ∀ k, v.ownBlock = some k → w0.heap.size ≤ k)
    (hp : IsPrec C p) (hC : p ≤ 38) (hS : S ≤ 38) (hms : ms ≤ 19) (hz : BI w g v C) :
    Calls Tryz.prog 120 #[.bool neg, .pointer (some ⟨g, 0, none⟩), .int .i64 S, .int .i64 ms] w (NBRet w g v neg (nbOut C p S ms)) := by
  have hC40 : C < 10 ^ 40 := hp.lt_iff.2 (by omega)
  have hle := @nbStep_some C (10 ^ S) C p S ms
  have hrec : ∀ s c, c = 10000000000000000000 → s ≤ 19 → ms ≤ s → ∀ W u, Fresh w0 W → (∀ k, u.ownBlock = some k → w0.heap.size ≤ k) → BI W g u c →
      Calls Tryz.prog 120 #[.bool neg, .pointer (some ⟨g, 0, none⟩), .int .i64 (s : Nat), .int .i64 ms] W (NBRet W g u neg (nbStep c 20 s ms)) := by
    rintro s c rfl hs hms' W u hW hu hb
    exact newFromBint_20 w0 W neg g s ms u hG hP hW hgl hu hs hms' hb
  unfold nbOut
  rcases Nat.lt_or_ge (19 + S) (p + ms) with hA | hA
  · have e : nbStep C p S ms = none := by unfold nbStep; rw [if_pos hA]
    rw [e]
    exact newFromBint_no w0 w neg g C p S ms v hG hP hf0 hgl hvl hp hC40 hS hms hz hA
  · rcases Nat.lt_or_ge S ms with hB | hB
    · have e : nbStep C p S ms = some (C * 10 ^ (ms - S), ms) := by unfold nbStep; rw [if_neg (by omega), if_pos hB]
      have hlt : C * 10 ^ (ms - S) < 10 ^ 19 := by
        have h1 : C < 10 ^ p := hp.1
        have h2 : C * 10 ^ (ms - S) < 10 ^ p * 10 ^ (ms - S) := Nat.mul_lt_mul_of_pos_right h1 (Nat.pow_pos (by omega))
        rw [← Nat.pow_add] at h2
        exact Nat.lt_of_lt_of_le h2 (Nat.pow_le_pow_right (by omega) (by omega))
      rw [show (10 : Nat) ^ 19 = 10000000000000000000 from rfl] at hlt
      rw [e]
      show Calls _ _ _ _ (NBRet w g v neg (if C * 10 ^ (ms - S) < 10000000000000000000 then _ else _))
      rw [if_pos hlt]
      exact newFromBint_B w0 w neg g C p S ms v hG hP hf0 hgl hvl hp hC40 hS hms hz hB hA _ rfl (by omega)
    · by_cases h1 : p ≤ S ∧ 19 < S
      · have e : nbStep C p S ms = some (rhe C (10 ^ (S - 19)), 19) := by unfold nbStep; rw [if_neg (by omega), if_neg (by omega), if_pos h1]
        obtain ⟨_, _, hc19, _, _⟩ := hle rfl (Nat.pow_pos (by omega)) hp hms e
        rw [e]
        show Calls _ _ _ _ (NBRet w g v neg (if rhe C (10 ^ (S - 19)) < 10000000000000000000 then _ else _))
        by_cases hl : rhe C (10 ^ (S - 19)) < 10000000000000000000
        · rw [if_pos hl]
          exact newFromBint_C w0 w neg g C p S ms v hG hP hf0 hgl hvl hp hC40 hS hms hz hB hA h1.1 h1.2 _ rfl (by omega)
        · rw [if_neg hl]
          obtain ⟨c, hc⟩ : ∃ c, c = rhe C (10 ^ (S - 19)) := ⟨_, rfl⟩
          rw [← hc] at hl hc19 ⊢
          have hr := hrec 19 c (by omega) (by omega) hms
          rcases ho : nbStep c 20 19 ms with _ | ⟨c', s'⟩
          · rw [ho] at hr
            exact newFromBint_C2 w0 w neg g C p S ms v hG hP hf0 hgl hvl hp hC40 hS hms hz hB hA h1.1 h1.2 c hc (by omega) _ _ _ _ hr
          · rw [ho] at hr
            exact newFromBint_C2 w0 w neg g C p S ms v hG hP hf0 hgl hvl hp hC40 hS hms hz hB hA h1.1 h1.2 c hc (by omega) _ _ _ _ hr
      · by_cases h2 : S < p ∧ 19 < p
        · have e : nbStep C p S ms = some (rhe C (10 ^ (p - 19)), 19 + S - p) := by unfold nbStep; rw [if_neg (by omega), if_neg (by omega), if_neg h1, if_pos h2]
          obtain ⟨hm1, hm2, hc19, _, _⟩ := hle rfl (Nat.pow_pos (by omega)) hp hms e
          rw [e]
          show Calls _ _ _ _ (NBRet w g v neg (if rhe C (10 ^ (p - 19)) < 10000000000000000000 then _ else _))
          by_cases hl : rhe C (10 ^ (p - 19)) < 10000000000000000000
          · rw [if_pos hl]
            exact newFromBint_D w0 w neg g C p S ms v hG hP hf0 hgl hvl hp hC40 hS hms hz hB hA h2.1 h2.2 hC _ rfl (by omega)
          · rw [if_neg hl]
            obtain ⟨c, hc⟩ : ∃ c, c = rhe C (10 ^ (p - 19)) := ⟨_, rfl⟩
            rw [← hc] at hl hc19 ⊢
            have hr := hrec (19 + S - p) c (by omega) hm2 hm1
            rcases ho : nbStep c 20 (19 + S - p) ms with _ | ⟨c', s'⟩
            · rw [ho] at hr
              exact newFromBint_D2 w0 w neg g C p S ms v hG hP hf0 hgl hvl hp hC40 hS hms hz hB hA h2.1 h2.2 hC c hc (by omega) _ _ _ _ hr
            · rw [ho] at hr
              exact newFromBint_D2 w0 w neg g C p S ms v hG hP hf0 hgl hvl hp hC40 hS hms hz hB hA h2.1 h2.2 hC c hc (by omega) _ _ _ _ hr
        · have e : nbStep C p S ms = some (C, S) := by unfold nbStep; rw [if_neg (by omega), if_neg (by omega), if_neg h1, if_neg h2]
          have hlt : C < 10 ^ 19 := hp.lt_iff.2 (by omega)
          rw [show (10 : Nat) ^ 19 = 10000000000000000000 from rfl] at hlt
          rw [e]
          show Calls _ _ _ _ (NBRet w g v neg (if C < 10000000000000000000 then _ else _))
          rw [if_pos hlt]
          exact newFromBint_E w0 w neg g C p S ms v hG hP hf0 hgl hvl hp hC40 hS hms hz hB hA (by omega) (by omega) (by omega)

end Go.Proofs.YtibaeafmgncjdaaGreatDoor

/- govalues' sums and products by whole numbers of any length: addBint, mulBint. -/
namespace Go.Proofs.YtibaeafmgncjdaaGreatDoor
open Go.RowKit

/-- inside addBint and mulBint: the two decimals, the result's place, the two whole numbers -/
structure BS (w V : World) (g : Nat) (m1 m2 : Bool) (c1 s1 c2 s2 : Nat) (v u : Value) (a e : Nat) : Prop where
  r1 : V.heap[g]? = some (.cells #[.bool m1, .int .i8 s1, .int .u64 c1] 62 (0, 0))
  r2 : V.heap[g + 1]? = some (.cells #[.bool m2, .int .i8 s2, .int .u64 c2] 62 (0, 0))
  r3 : V.heap[g + 1 + 1]? = some (.cells #[.bool false, .int .i8 0, .int .u64 0] 62 (0, 0))
  z : BI V (g + 3) v a
  y : BI V (g + 4) u e
  ov : ∀ k, v.ownBlock = some k → g + 5 ≤ k
  ou : ∀ k, u.ownBlock = some k → g + 5 ≤ k
  od : ∀ k, v.ownBlock = some k → u.ownBlock ≠ some k
  f : Fresh w V
  hg : g = w.heap.size
  hs : g + 5 ≤ V.heap.size

section
variable {w V V' : World} {g : Nat} {m1 m2 : Bool} {c1 s1 c2 s2 : Nat} {v u : Value} {a e m : Nat}

theorem BS.fresh (h : BS w V g m1 m2 c1 s1 c2 s2 v u a e) (hf : Fresh V V') : BS w V' g m1 m2 c1 s1 c2 s2 v u a e :=
  ⟨row_fresh h.r1 hf, row_fresh h.r2 hf, row_fresh h.r3 hf, h.z.fresh hf, h.y.fresh hf, h.ov, h.ou, h.od, fresh_trans h.f hf, h.hg, Nat.le_trans h.hs hf.size⟩

theorem BS.setP (h : BS w V g m1 m2 c1 s1 c2 s2 v u a e) (hb : BSet V (g + 3) v m V') : ∃ v', BS w V' g m1 m2 c1 s1 c2 s2 v' u m e := by
  obtain ⟨v', h1, h2, h3⟩ := hb
  have no : ∀ k, k ≤ g + 2 → ¬ (k = g + 3 ∨ v.ownBlock = some k) := fun k hk hh => by
    rcases hh with hh | hh
    · omega
    · have := h.ov k hh; omega
  refine ⟨v', row_keep h.r1 h2 (no _ (by omega)), row_keep h.r2 h2 (no _ (by omega)), row_keep h.r3 h2 (no _ (by omega)), h1, h.y.keep h2 ?_ ?_, ?_, h.ou, ?_, h.f.trans h2 (fun _ _ h => h) ?_, h.hg, Nat.le_trans h.hs h2.size⟩
  · rintro (hh | hh)
    · omega
    · have := h.ov _ hh; omega
  · rintro k hk (hh | hh)
    · have := h.ou k hk; omega
    · exact h.od k hh hk
  · intro k hk
    rcases h3 k hk with hh | hh
    · exact h.ov k hh
    · have := h.hs; omega
  · intro k hk hh
    rcases h3 k hk with h' | h'
    · exact h.od k h' hh
    · have := h.y.own_lt hh; omega
  · intro k hk hh
    have := h.hg
    rcases hh with rfl | hh
    · omega
    · have := h.ov k hh; omega

theorem BS.setQ (h : BS w V g m1 m2 c1 s1 c2 s2 v u a e) (hb : BSet V (g + 4) u m V') : ∃ u', BS w V' g m1 m2 c1 s1 c2 s2 v u' a m := by
  obtain ⟨u', h1, h2, h3⟩ := hb
  have no : ∀ k, k ≤ g + 2 → ¬ (k = g + 4 ∨ u.ownBlock = some k) := fun k hk hh => by
    rcases hh with hh | hh
    · omega
    · have := h.ou k hh; omega
  refine ⟨u', row_keep h.r1 h2 (no _ (by omega)), row_keep h.r2 h2 (no _ (by omega)), row_keep h.r3 h2 (no _ (by omega)), h.z.keep h2 ?_ ?_, h1, h.ov, ?_, ?_, h.f.trans h2 (fun _ _ h => h) ?_, h.hg, Nat.le_trans h.hs h2.size⟩
  · rintro (hh | hh)
    · omega
    · have := h.ou _ hh; omega
  · rintro k hk (hh | hh)
    · have := h.ov k hk; omega
    · exact h.od k hk hh
  · intro k hk
    rcases h3 k hk with hh | hh
    · exact h.ou k hh
    · have := h.hs; omega
  · intro k hk hh
    rcases h3 k hh with h' | h'
    · exact h.od k hk h'
    · have := h.z.own_lt hk; omega
  · intro k hk hh
    have := h.hg
    rcases hh with rfl | hh
    · omega
    · have := h.ou k hh; omega

end

theorem scaled_lt {c k : Nat} (hc : c ≤ 9999999999999999999) (hk : k ≤ 19) : c * 10 ^ k < wpow 39 := by
  have h1 : 10 ^ k ≤ 10 ^ 19 := Nat.pow_le_pow_right (by omega) hk
  have h2 : c * 10 ^ k ≤ 9999999999999999999 * 10 ^ 19 := Nat.mul_le_mul hc h1
  exact wpow_big (Nat.lt_of_le_of_lt h2 (by decide))

theorem cmpN_not {a e : Nat} (h : ¬ a < e) : decide (0 < cmpN e a) = false := by
  unfold cmpN
  split
  · rfl
  · rfl

set_option maxRecDepth 20000 in
set_option maxHeartbeats 4000000 in
theorem mulBint_go (m1 m2 : Bool) (c1 s1 c2 s2 : Nat) (w : World) (hG : Glob w) (hP : Pow10s w) (ms : Nat) (hs1 : s1 ≤ 19) (hs2 : s2 ≤ 19) (hc1 : c1 ≤ 9999999999999999999) (hc2 : c2 ≤ 9999999999999999999) (nz : Bool) (sz cz : Nat) (Pv : Value → Prop)
    (hnb : ∀ V v, Fresh w V → (∀ k, v.ownBlock = some k → w.heap.size + 5 ≤ k) → BI V (w.heap.size + 3) v (c1 * c2) → Calls Tryz.prog 120 #[.bool (m1 != m2), .pointer (some ⟨w.heap.size + 3, 0, none⟩), .int .i64 (s1 + s2 : Nat), .int .i64 ms] V (NBOut V (w.heap.size + 3) v nz sz cz Pv)) :
    Calls Tryz.prog 104 #[gd m1 s1 c1, gd m2 s2 c2, .int .i64 ms] w (DOut w nz sz cz Pv) := by
  have hcw1 : c1 < wpow 39 := wpow_big (by omega)
  have hcw2 : c2 < wpow 39 := wpow_big (by omega)
  have hsI : (s1 : Int) + (s2 : Int) = ((s1 + s2 : Nat) : Int) := by omega
  obtain ⟨S, hS⟩ : ∃ S, S = s1 + s2 := ⟨_, rfl⟩
  rw [← hS] at hsI hnb
  have hSw : IntKind.i64.wrap (S : Int) = (S : Int) := wrap_nat S (by omega)
  clear hS
  obtain ⟨g, hg⟩ : ∃ g, g = w.heap.size := ⟨_, rfl⟩
  have hsz0 : NG ≤ w.heap.size := hG.size
  have bx := boxes3 w #[.bool m1, .int .i8 s1, .int .u64 c1] #[.bool m2, .int .i8 s2, .int .u64 c2] #[.bool false, .int .i8 0, .int .u64 0] 62 62 62 g hg
  rw [← hg] at hnb
  have H_bx := Lib.hid bx; clear bx
  have H_hsz0 := Lib.hid hsz0; clear hsz0
  have H_hG := Lib.hid hG; clear hG
  have H_hP := Lib.hid hP; clear hP
  have H_hnb := Lib.hid hnb; clear hnb
  have H_hcw1 := Lib.hid hcw1; clear hcw1
  have H_hcw2 := Lib.hid hcw2; clear hcw2
  have H_hs1 := Lib.hid hs1; clear hs1
  have H_hs2 := Lib.hid hs2; clear hs2
  have H_hc1 := Lib.hid hc1; clear hc1
  have H_hc2 := Lib.hid hc2; clear hc2
  go_enter_defers Tryz.func104, Tryz.ntmps104
  go_wp2_with (fail)
  generalize hw1 : ((w.alloc _).alloc _).alloc _ = w1
  rw [← hg]
  obtain ⟨r1, r2, r3, fa, _⟩ := H_bx.out w1 hw1
  have sz1 : w1.heap.size = g + 3 := by rw [← hw1, hg]; simp
  have hb1 := getBint_any w1 (by have := H_hsz0.out; omega)
  rw [sz1] at hb1
  have H_r1 := Lib.hid r1; clear r1
  have H_r2 := Lib.hid r2; clear r2
  have H_r3 := Lib.hid r3; clear r3
  have H_fa := Lib.hid fa; clear fa
  have H_hw1 := Lib.hid hw1; clear hw1
  have H_hg := Lib.hid hg; clear hg
  have H_hb1 := Lib.hid hb1; clear hb1
  have H_sz1 := Lib.hid sz1; clear sz1
  go_wp2_with (fail)
  refine H_hb1.out.mono ?_
  rintro e w2 ⟨rfl, z2, f2, sz2⟩
  have sz2' : w2.heap.size = g + 4 := by omega
  have hb2 := getBint_any w2 (by have := H_hsz0.out; have := H_hg.out; omega)
  rw [sz2'] at hb2
  have H_z2 := Lib.hid z2; clear z2
  have H_f2 := Lib.hid f2; clear f2
  have H_sz2 := Lib.hid sz2; clear sz2
  have H_sz2' := Lib.hid sz2'; clear sz2'
  have H_hb2 := Lib.hid hb2; clear hb2
  go_wp2_with (fail)
  refine H_hb2.out.mono ?_
  rintro e w3 ⟨rfl, y3, f3, sz3⟩
  have ff := fresh_trans H_f2.out f3
  have bs : BS w w3 g m1 m2 c1 s1 c2 s2 (.slice none 0 0) (.slice none 0 0) 0 0 := ⟨row_fresh H_r1.out ff, row_fresh H_r2.out ff, row_fresh H_r3.out ff, H_z2.out.fresh f3, y3, fun k h => by simp [Value.ownBlock] at h, fun k h => by simp [Value.ownBlock] at h, fun k h => by simp [Value.ownBlock] at h, fresh_trans H_fa.out ff, H_hg.out, by omega⟩
  clear H_r1 H_r2 H_r3 H_fa H_z2 H_f2 y3 f3 sz3 ff
  have k0 := row_cell bs.r1 0
  have k1 := row_cell bs.r1 1
  have k2 := row_cell bs.r1 2
  have k3 := row_cell bs.r2 0
  have k4 := row_cell bs.r2 1
  have k5 := row_cell bs.r2 2
  simp at k0 k1 k2 k3 k4 k5
  have H_bs := Lib.hid bs; clear bs
  go_wp2_with (fail)
  refine (setFint_any (g + 3) _ 0 c1 _ (by have := H_hc1.out; omega) H_bs.out.z).mono ?_
  rintro e w4 ⟨rfl, hbs⟩
  obtain ⟨x4, bs⟩ := H_bs.out.setP hbs
  clear H_bs hbs
  clear k0 k1 k2 k3 k4 k5
  have k0 := row_cell bs.r1 0
  have k1 := row_cell bs.r1 1
  have k2 := row_cell bs.r1 2
  have k3 := row_cell bs.r2 0
  have k4 := row_cell bs.r2 1
  have k5 := row_cell bs.r2 2
  simp at k0 k1 k2 k3 k4 k5
  have H_bs := Lib.hid bs; clear bs
  go_wp2_with (fail)
  refine (Scale_any m1 s1 c1 _ H_hs1.out).mono ?_
  rintro e w5 ⟨rfl, f9⟩
  have bs := H_bs.out.fresh f9
  clear H_bs f9
  clear k0 k1 k2 k3 k4 k5
  have k0 := row_cell bs.r1 0
  have k1 := row_cell bs.r1 1
  have k2 := row_cell bs.r1 2
  have k3 := row_cell bs.r2 0
  have k4 := row_cell bs.r2 1
  have k5 := row_cell bs.r2 2
  simp at k0 k1 k2 k3 k4 k5
  have H_bs := Lib.hid bs; clear bs
  go_wp2_with (fail)
  refine (IsNeg_any m1 s1 c1 _).mono ?_
  rintro e w6 ⟨rfl, f9⟩
  have bs := H_bs.out.fresh f9
  clear H_bs f9
  clear k0 k1 k2 k3 k4 k5
  have k0 := row_cell bs.r1 0
  have k1 := row_cell bs.r1 1
  have k2 := row_cell bs.r1 2
  have k3 := row_cell bs.r2 0
  have k4 := row_cell bs.r2 1
  have k5 := row_cell bs.r2 2
  simp at k0 k1 k2 k3 k4 k5
  have H_bs := Lib.hid bs; clear bs
  go_wp2_with (fail)
  refine (setFint_any (g + 4) _ 0 c2 _ (by have := H_hc2.out; omega) H_bs.out.y).mono ?_
  rintro e w7 ⟨rfl, hbs⟩
  obtain ⟨x7, bs⟩ := H_bs.out.setQ hbs
  clear H_bs hbs
  clear k0 k1 k2 k3 k4 k5
  have k0 := row_cell bs.r1 0
  have k1 := row_cell bs.r1 1
  have k2 := row_cell bs.r1 2
  have k3 := row_cell bs.r2 0
  have k4 := row_cell bs.r2 1
  have k5 := row_cell bs.r2 2
  simp at k0 k1 k2 k3 k4 k5
  have H_bs := Lib.hid bs; clear bs
  go_wp2_with (fail)
  refine (mul_self (g + 3) (g + 4) _ _ c1 c2 _ (H_hG.out.fresh H_bs.out.f) H_hcw1.out H_hcw2.out (by omega) H_bs.out.z H_bs.out.y (.inr H_bs.out.od)).mono ?_
  rintro e w8 ⟨rfl, hbs⟩
  obtain ⟨x8, bs⟩ := H_bs.out.setP hbs
  clear H_bs hbs
  clear k0 k1 k2 k3 k4 k5
  have k0 := row_cell bs.r1 0
  have k1 := row_cell bs.r1 1
  have k2 := row_cell bs.r1 2
  have k3 := row_cell bs.r2 0
  have k4 := row_cell bs.r2 1
  have k5 := row_cell bs.r2 2
  simp at k0 k1 k2 k3 k4 k5
  have H_bs := Lib.hid bs; clear bs
  go_wp2_with (fail)
  refine (IsNeg_any m2 s2 c2 _).mono ?_
  rintro e w9 ⟨rfl, f9⟩
  have bs := H_bs.out.fresh f9
  clear H_bs f9
  clear k0 k1 k2 k3 k4 k5
  have k0 := row_cell bs.r1 0
  have k1 := row_cell bs.r1 1
  have k2 := row_cell bs.r1 2
  have k3 := row_cell bs.r2 0
  have k4 := row_cell bs.r2 1
  have k5 := row_cell bs.r2 2
  simp at k0 k1 k2 k3 k4 k5
  have H_bs := Lib.hid bs; clear bs
  go_wp2_with (fail)
  refine (Scale_any m2 s2 c2 _ H_hs2.out).mono ?_
  rintro e w10 ⟨rfl, f9⟩
  have bs := H_bs.out.fresh f9
  clear H_bs f9
  clear k0 k1 k2 k3 k4 k5
  have k0 := row_cell bs.r1 0
  have k1 := row_cell bs.r1 1
  have k2 := row_cell bs.r1 2
  have k3 := row_cell bs.r2 0
  have k4 := row_cell bs.r2 1
  have k5 := row_cell bs.r2 2
  simp at k0 k1 k2 k3 k4 k5
  have H_bs := Lib.hid bs; clear bs
  go_wp2_with (fail)
  refine (H_hnb.out _ _ H_bs.out.f (fun k h => H_bs.out.ov k h) H_bs.out.z).mono ?_
  rintro e w11 ⟨ev, rfl, hev, k9⟩
  have r3 := row_keep H_bs.out.r3 k9 (fun hh => hh.elim (fun h => by omega) (fun h => by have := H_bs.out.ov _ h; omega))
  have fa : Fresh w w11 := H_bs.out.f.trans k9 (fun _ _ h => h) (fun k hk hh => by
    have := H_bs.out.hg
    rcases hh with rfl | hh
    · omega
    · have := H_bs.out.ov k hh; omega)
  have p0 := row_cell r3 0
  have p1 := row_cell r3 1
  have p2 := row_cell r3 2
  simp at p0 p1 p2
  have z0 : w11.frozen? ⟨g + 1 + 1, 0, none⟩ = false := frozen_of_row _ _ _ _ _ r3
  have z1 : w11.frozen? ⟨g + 1 + 1, 1, none⟩ = false := frozen_of_row _ _ _ _ _ r3
  have z2 : w11.frozen? ⟨g + 1 + 1, 2, none⟩ = false := frozen_of_row _ _ _ _ _ r3
  clear k9 k0 k1 k2 k3 k4 k5
  have H_r3 := Lib.hid r3; clear r3
  have H_fa := Lib.hid fa; clear fa
  have H_hev := Lib.hid hev; clear hev
  go_wp2_with (fail)
  refine leaves_cons (f := 110) (args := #[.pointer (some ⟨g + 4, 0, none⟩)]) (by simp) (by simp [go_sem]) ?_
  refine (putBint_idle _ _).mono ?_
  rintro e u' w'' ⟨rfl, rfl, rfl⟩
  refine leaves_cons (f := 110) (args := #[.pointer (some ⟨g + 3, 0, none⟩)]) (by first | (intro h; cases h; done) | simp [settle]) (by simp [go_sem]) ?_
  refine (putBint_idle _ _).mono ?_
  rintro e u2 wf ⟨rfl, rfl, rfl⟩
  refine ⟨_, results_cell_tmp_row rfl _ _ (g + 1 + 1) 62 #[.bool nz, .int .i8 sz, .int .u64 cz] (0, 0) _ rfl (row_set (row_set (row_set H_r3.out))) Tryz.underlying62 rfl (by kernel_rfl), ?_⟩
  exact ⟨ev, rfl, H_hev.out, Fresh.set3 H_fa.out (by have := H_hg.out; omega)⟩


set_option maxRecDepth 20000 in
set_option maxHeartbeats 4000000 in
theorem addBint_gt_same (m1 m2 : Bool) (c1 s1 c2 s2 : Nat) (w : World) (hG : Glob w) (hP : Pow10s w) (ms : Nat) (hs1 : s1 ≤ 19) (hs2 : s2 ≤ 19) (hc1 : c1 ≤ 9999999999999999999) (hc2 : c2 ≤ 9999999999999999999) (hsc : s2 < s1) (hsg : m1 = m2) (nz : Bool) (sz cz : Nat) (Pv : Value → Prop)
    (hnb : ∀ V v, Fresh w V → (∀ k, v.ownBlock = some k → w.heap.size + 5 ≤ k) → BI V (w.heap.size + 3) v (c1 + c2 * 10 ^ (s1 - s2)) → Calls Tryz.prog 120 #[.bool m1, .pointer (some ⟨w.heap.size + 3, 0, none⟩), .int .i64 (s1 : Nat), .int .i64 ms] V (NBOut V (w.heap.size + 3) v nz sz cz Pv)) :
    Calls Tryz.prog 100 #[gd m1 s1 c1, gd m2 s2 c2, .int .i64 ms] w (DOut w nz sz cz Pv) := by
  have hcw1 : c1 < wpow 39 := wpow_big (by omega)
  have hcw2 : c2 < wpow 39 := wpow_big (by omega)
  have t1 : decide ((s2 : Int) < (s1 : Int)) = true := by simp; omega
  have hbw : c2 * 10 ^ (s1 - s2) < wpow 39 := scaled_lt hc2 (by omega)
  obtain ⟨k, hk⟩ : ∃ k, k = s1 - s2 := ⟨_, rfl⟩
  have hkI : (s1 : Int) - (s2 : Int) = (k : Int) := by omega
  have hk19 : k ≤ 19 := by omega
  have hkw : IntKind.i64.wrap (k : Int) = (k : Int) := wrap_nat k (by omega)
  rw [← hk] at hbw hnb
  have hlsh := fun g v W (hG : Glob W) (hP : Pow10s W) => lsh_self g v c2 k W hG hP hcw2 hk19
  obtain ⟨b, hb⟩ : ∃ b, b = c2 * 10 ^ k := ⟨_, rfl⟩
  rw [← hb] at hbw hnb hlsh
  clear hb hk hk19
  subst hsg
  obtain ⟨g, hg⟩ : ∃ g, g = w.heap.size := ⟨_, rfl⟩
  have hsz0 : NG ≤ w.heap.size := hG.size
  have bx := boxes3 w #[.bool m1, .int .i8 s1, .int .u64 c1] #[.bool m1, .int .i8 s2, .int .u64 c2] #[.bool false, .int .i8 0, .int .u64 0] 62 62 62 g hg
  rw [← hg] at hnb
  have H_bx := Lib.hid bx; clear bx
  have H_hsz0 := Lib.hid hsz0; clear hsz0
  have H_hG := Lib.hid hG; clear hG
  have H_hP := Lib.hid hP; clear hP
  have H_hnb := Lib.hid hnb; clear hnb
  have H_hcw1 := Lib.hid hcw1; clear hcw1
  have H_hcw2 := Lib.hid hcw2; clear hcw2
  have H_hs1 := Lib.hid hs1; clear hs1
  have H_hs2 := Lib.hid hs2; clear hs2
  have H_hc1 := Lib.hid hc1; clear hc1
  have H_hc2 := Lib.hid hc2; clear hc2
  have H_hlsh := Lib.hid hlsh; clear hlsh
  have H_hbw := Lib.hid hbw; clear hbw
  go_enter_defers Tryz.func100, Tryz.ntmps100
  go_wp2_with (fail)
  generalize hw1 : ((w.alloc _).alloc _).alloc _ = w1
  rw [← hg]
  obtain ⟨r1, r2, r3, fa, _⟩ := H_bx.out w1 hw1
  have sz1 : w1.heap.size = g + 3 := by rw [← hw1, hg]; simp
  have hb1 := getBint_any w1 (by have := H_hsz0.out; omega)
  rw [sz1] at hb1
  have H_r1 := Lib.hid r1; clear r1
  have H_r2 := Lib.hid r2; clear r2
  have H_r3 := Lib.hid r3; clear r3
  have H_fa := Lib.hid fa; clear fa
  have H_hw1 := Lib.hid hw1; clear hw1
  have H_hg := Lib.hid hg; clear hg
  have H_hb1 := Lib.hid hb1; clear hb1
  have H_sz1 := Lib.hid sz1; clear sz1
  go_wp2_with (fail)
  refine H_hb1.out.mono ?_
  rintro e w2 ⟨rfl, z2, f2, sz2⟩
  have sz2' : w2.heap.size = g + 4 := by omega
  have hb2 := getBint_any w2 (by have := H_hsz0.out; have := H_hg.out; omega)
  rw [sz2'] at hb2
  have H_z2 := Lib.hid z2; clear z2
  have H_f2 := Lib.hid f2; clear f2
  have H_sz2 := Lib.hid sz2; clear sz2
  have H_sz2' := Lib.hid sz2'; clear sz2'
  have H_hb2 := Lib.hid hb2; clear hb2
  go_wp2_with (fail)
  refine H_hb2.out.mono ?_
  rintro e w3 ⟨rfl, y3, f3, sz3⟩
  have ff := fresh_trans H_f2.out f3
  have bs : BS w w3 g m1 m1 c1 s1 c2 s2 (.slice none 0 0) (.slice none 0 0) 0 0 := ⟨row_fresh H_r1.out ff, row_fresh H_r2.out ff, row_fresh H_r3.out ff, H_z2.out.fresh f3, y3, fun k h => by simp [Value.ownBlock] at h, fun k h => by simp [Value.ownBlock] at h, fun k h => by simp [Value.ownBlock] at h, fresh_trans H_fa.out ff, H_hg.out, by omega⟩
  clear H_r1 H_r2 H_r3 H_fa H_z2 H_f2 y3 f3 sz3 ff
  have k0 := row_cell bs.r1 0
  have k1 := row_cell bs.r1 1
  have k2 := row_cell bs.r1 2
  have k3 := row_cell bs.r2 0
  have k4 := row_cell bs.r2 1
  have k5 := row_cell bs.r2 2
  simp at k0 k1 k2 k3 k4 k5
  have H_bs := Lib.hid bs; clear bs
  go_wp2_with (fail)
  refine (setFint_any (g + 3) _ 0 c1 _ (by have := H_hc1.out; omega) H_bs.out.z).mono ?_
  rintro e w4 ⟨rfl, hbs⟩
  obtain ⟨x4, bs⟩ := H_bs.out.setP hbs
  clear H_bs hbs
  clear k0 k1 k2 k3 k4 k5
  have k0 := row_cell bs.r1 0
  have k1 := row_cell bs.r1 1
  have k2 := row_cell bs.r1 2
  have k3 := row_cell bs.r2 0
  have k4 := row_cell bs.r2 1
  have k5 := row_cell bs.r2 2
  simp at k0 k1 k2 k3 k4 k5
  have H_bs := Lib.hid bs; clear bs
  go_wp2_with (fail)
  refine (Scale_any m1 s1 c1 _ H_hs1.out).mono ?_
  rintro e w5 ⟨rfl, f9⟩
  have bs := H_bs.out.fresh f9
  clear H_bs f9
  clear k0 k1 k2 k3 k4 k5
  have k0 := row_cell bs.r1 0
  have k1 := row_cell bs.r1 1
  have k2 := row_cell bs.r1 2
  have k3 := row_cell bs.r2 0
  have k4 := row_cell bs.r2 1
  have k5 := row_cell bs.r2 2
  simp at k0 k1 k2 k3 k4 k5
  have H_bs := Lib.hid bs; clear bs
  go_wp2_with (fail)
  refine (setFint_any (g + 4) _ 0 c2 _ (by have := H_hc2.out; omega) H_bs.out.y).mono ?_
  rintro e w6 ⟨rfl, hbs⟩
  obtain ⟨x6, bs⟩ := H_bs.out.setQ hbs
  clear H_bs hbs
  clear k0 k1 k2 k3 k4 k5
  have k0 := row_cell bs.r1 0
  have k1 := row_cell bs.r1 1
  have k2 := row_cell bs.r1 2
  have k3 := row_cell bs.r2 0
  have k4 := row_cell bs.r2 1
  have k5 := row_cell bs.r2 2
  simp at k0 k1 k2 k3 k4 k5
  have H_bs := Lib.hid bs; clear bs
  go_wp2_with (fail)
  refine (IsNeg_any m1 s1 c1 _).mono ?_
  rintro e w7 ⟨rfl, f9⟩
  have bs := H_bs.out.fresh f9
  clear H_bs f9
  clear k0 k1 k2 k3 k4 k5
  have k0 := row_cell bs.r1 0
  have k1 := row_cell bs.r1 1
  have k2 := row_cell bs.r1 2
  have k3 := row_cell bs.r2 0
  have k4 := row_cell bs.r2 1
  have k5 := row_cell bs.r2 2
  simp at k0 k1 k2 k3 k4 k5
  have H_bs := Lib.hid bs; clear bs
  go_wp2_with (fail)
  refine (Scale_any m1 s2 c2 _ H_hs2.out).mono ?_
  rintro e w8 ⟨rfl, f9⟩
  have bs := H_bs.out.fresh f9
  clear H_bs f9
  clear k0 k1 k2 k3 k4 k5
  have k0 := row_cell bs.r1 0
  have k1 := row_cell bs.r1 1
  have k2 := row_cell bs.r1 2
  have k3 := row_cell bs.r2 0
  have k4 := row_cell bs.r2 1
  have k5 := row_cell bs.r2 2
  simp at k0 k1 k2 k3 k4 k5
  have H_bs := Lib.hid bs; clear bs
  go_wp2_with (fail)
  refine (Scale_any m1 s2 c2 _ H_hs2.out).mono ?_
  rintro e w9 ⟨rfl, f9⟩
  have bs := H_bs.out.fresh f9
  clear H_bs f9
  clear k0 k1 k2 k3 k4 k5
  have k0 := row_cell bs.r1 0
  have k1 := row_cell bs.r1 1
  have k2 := row_cell bs.r1 2
  have k3 := row_cell bs.r2 0
  have k4 := row_cell bs.r2 1
  have k5 := row_cell bs.r2 2
  simp at k0 k1 k2 k3 k4 k5
  have H_bs := Lib.hid bs; clear bs
  go_wp2_with (fail)
  refine (H_hlsh.out (g + 4) _ _ (H_hG.out.fresh H_bs.out.f) (H_hP.out.fresh H_bs.out.f) H_bs.out.y).mono ?_
  rintro e w10 ⟨rfl, hbs⟩
  obtain ⟨x10, bs⟩ := H_bs.out.setQ hbs
  clear H_bs hbs
  clear k0 k1 k2 k3 k4 k5
  have k0 := row_cell bs.r1 0
  have k1 := row_cell bs.r1 1
  have k2 := row_cell bs.r1 2
  have k3 := row_cell bs.r2 0
  have k4 := row_cell bs.r2 1
  have k5 := row_cell bs.r2 2
  simp at k0 k1 k2 k3 k4 k5
  have H_bs := Lib.hid bs; clear bs
  go_wp2_with (fail)
  refine (IsNeg_any m1 s2 c2 _).mono ?_
  rintro e w11 ⟨rfl, f9⟩
  have bs := H_bs.out.fresh f9
  clear H_bs f9
  clear k0 k1 k2 k3 k4 k5
  have k0 := row_cell bs.r1 0
  have k1 := row_cell bs.r1 1
  have k2 := row_cell bs.r1 2
  have k3 := row_cell bs.r2 0
  have k4 := row_cell bs.r2 1
  have k5 := row_cell bs.r2 2
  simp at k0 k1 k2 k3 k4 k5
  have H_bs := Lib.hid bs; clear bs
  go_wp2_with (fail)
  refine (badd_any (g + 3) (g + 3) (g + 4) _ _ _ c1 c1 b _ H_hcw1.out H_hbw.out H_bs.out.z H_bs.out.z H_bs.out.y (.inl rfl) (.inr H_bs.out.od)).mono ?_
  rintro e w12 ⟨rfl, hbs⟩
  obtain ⟨x12, bs⟩ := H_bs.out.setP hbs
  clear H_bs hbs
  clear k0 k1 k2 k3 k4 k5
  have k0 := row_cell bs.r1 0
  have k1 := row_cell bs.r1 1
  have k2 := row_cell bs.r1 2
  have k3 := row_cell bs.r2 0
  have k4 := row_cell bs.r2 1
  have k5 := row_cell bs.r2 2
  simp at k0 k1 k2 k3 k4 k5
  have H_bs := Lib.hid bs; clear bs
  go_wp2_with (fail)
  refine (H_hnb.out _ _ H_bs.out.f (fun k h => H_bs.out.ov k h) H_bs.out.z).mono ?_
  rintro e w13 ⟨ev, rfl, hev, k9⟩
  have r3 := row_keep H_bs.out.r3 k9 (fun hh => hh.elim (fun h => by omega) (fun h => by have := H_bs.out.ov _ h; omega))
  have fa : Fresh w w13 := H_bs.out.f.trans k9 (fun _ _ h => h) (fun k hk hh => by
    have := H_bs.out.hg
    rcases hh with rfl | hh
    · omega
    · have := H_bs.out.ov k hh; omega)
  have p0 := row_cell r3 0
  have p1 := row_cell r3 1
  have p2 := row_cell r3 2
  simp at p0 p1 p2
  have z0 : w13.frozen? ⟨g + 1 + 1, 0, none⟩ = false := frozen_of_row _ _ _ _ _ r3
  have z1 : w13.frozen? ⟨g + 1 + 1, 1, none⟩ = false := frozen_of_row _ _ _ _ _ r3
  have z2 : w13.frozen? ⟨g + 1 + 1, 2, none⟩ = false := frozen_of_row _ _ _ _ _ r3
  clear k9 k0 k1 k2 k3 k4 k5
  have H_r3 := Lib.hid r3; clear r3
  have H_fa := Lib.hid fa; clear fa
  have H_hev := Lib.hid hev; clear hev
  go_wp2_with (fail)
  refine leaves_cons (f := 110) (args := #[.pointer (some ⟨g + 4, 0, none⟩)]) (by simp) (by simp [go_sem]) ?_
  refine (putBint_idle _ _).mono ?_
  rintro e u' w'' ⟨rfl, rfl, rfl⟩
  refine leaves_cons (f := 110) (args := #[.pointer (some ⟨g + 3, 0, none⟩)]) (by first | (intro h; cases h; done) | simp [settle]) (by simp [go_sem]) ?_
  refine (putBint_idle _ _).mono ?_
  rintro e u2 wf ⟨rfl, rfl, rfl⟩
  refine ⟨_, results_cell_tmp_row rfl _ _ (g + 1 + 1) 62 #[.bool nz, .int .i8 sz, .int .u64 cz] (0, 0) _ rfl (row_set (row_set (row_set H_r3.out))) Tryz.underlying62 rfl (by kernel_rfl), ?_⟩
  exact ⟨ev, rfl, H_hev.out, Fresh.set3 H_fa.out (by have := H_hg.out; omega)⟩


set_option maxRecDepth 20000 in
set_option maxHeartbeats 4000000 in
theorem addBint_gt_less (m1 m2 : Bool) (c1 s1 c2 s2 : Nat) (w : World) (hG : Glob w) (hP : Pow10s w) (ms : Nat) (hs1 : s1 ≤ 19) (hs2 : s2 ≤ 19) (hc1 : c1 ≤ 9999999999999999999) (hc2 : c2 ≤ 9999999999999999999) (hsc : s2 < s1) (hsg : m1 ≠ m2) (hsum : c1 < c2 * 10 ^ (s1 - s2)) (nz : Bool) (sz cz : Nat) (Pv : Value → Prop)
    (hnb : ∀ V v, Fresh w V → (∀ k, v.ownBlock = some k → w.heap.size + 5 ≤ k) → BI V (w.heap.size + 3) v (adf (c1) (c2 * 10 ^ (s1 - s2))) → Calls Tryz.prog 120 #[.bool m2, .pointer (some ⟨w.heap.size + 3, 0, none⟩), .int .i64 (s1 : Nat), .int .i64 ms] V (NBOut V (w.heap.size + 3) v nz sz cz Pv)) :
    Calls Tryz.prog 100 #[gd m1 s1 c1, gd m2 s2 c2, .int .i64 ms] w (DOut w nz sz cz Pv) := by
  have hcw1 : c1 < wpow 39 := wpow_big (by omega)
  have hcw2 : c2 < wpow 39 := wpow_big (by omega)
  have t1 : decide ((s2 : Int) < (s1 : Int)) = true := by simp; omega
  have hbw : c2 * 10 ^ (s1 - s2) < wpow 39 := scaled_lt hc2 (by omega)
  obtain ⟨k, hk⟩ : ∃ k, k = s1 - s2 := ⟨_, rfl⟩
  have hkI : (s1 : Int) - (s2 : Int) = (k : Int) := by omega
  have hk19 : k ≤ 19 := by omega
  have hkw : IntKind.i64.wrap (k : Int) = (k : Int) := wrap_nat k (by omega)
  rw [← hk] at hbw hnb hsum
  have hlsh := fun g v W (hG : Glob W) (hP : Pow10s W) => lsh_self g v c2 k W hG hP hcw2 hk19
  obtain ⟨b, hb⟩ : ∃ b, b = c2 * 10 ^ k := ⟨_, rfl⟩
  rw [← hb] at hbw hnb hlsh hsum
  clear hb hk hk19
  have t4 : (m1 == m2) = false := by simpa using hsg
  have t5 : cmpN (b) (c1) = 1 := by unfold cmpN; rw [if_neg (by omega), if_pos hsum]
  have t6 : (if b ≤ c1 then c1 - b else b - c1) = adf c1 b := by unfold adf; split <;> split <;> omega
  have H_hsg := Lib.hid hsg
  clear hsg
  generalize adf c1 b = q at *
  obtain ⟨g, hg⟩ : ∃ g, g = w.heap.size := ⟨_, rfl⟩
  have hsz0 : NG ≤ w.heap.size := hG.size
  have bx := boxes3 w #[.bool m1, .int .i8 s1, .int .u64 c1] #[.bool m2, .int .i8 s2, .int .u64 c2] #[.bool false, .int .i8 0, .int .u64 0] 62 62 62 g hg
  rw [← hg] at hnb
  have H_bx := Lib.hid bx; clear bx
  have H_hsz0 := Lib.hid hsz0; clear hsz0
  have H_hG := Lib.hid hG; clear hG
  have H_hP := Lib.hid hP; clear hP
  have H_hnb := Lib.hid hnb; clear hnb
  have H_hcw1 := Lib.hid hcw1; clear hcw1
  have H_hcw2 := Lib.hid hcw2; clear hcw2
  have H_hs1 := Lib.hid hs1; clear hs1
  have H_hs2 := Lib.hid hs2; clear hs2
  have H_hc1 := Lib.hid hc1; clear hc1
  have H_hc2 := Lib.hid hc2; clear hc2
  have H_hlsh := Lib.hid hlsh; clear hlsh
  have H_hbw := Lib.hid hbw; clear hbw
  have H_hsum := Lib.hid hsum; clear hsum
  have H_t6 := Lib.hid t6; clear t6
  have H_t5 := Lib.hid t5; clear t5
  go_enter_defers Tryz.func100, Tryz.ntmps100
  go_wp2_with (fail)
  generalize hw1 : ((w.alloc _).alloc _).alloc _ = w1
  rw [← hg]
  obtain ⟨r1, r2, r3, fa, _⟩ := H_bx.out w1 hw1
  have sz1 : w1.heap.size = g + 3 := by rw [← hw1, hg]; simp
  have hb1 := getBint_any w1 (by have := H_hsz0.out; omega)
  rw [sz1] at hb1
  have H_r1 := Lib.hid r1; clear r1
  have H_r2 := Lib.hid r2; clear r2
  have H_r3 := Lib.hid r3; clear r3
  have H_fa := Lib.hid fa; clear fa
  have H_hw1 := Lib.hid hw1; clear hw1
  have H_hg := Lib.hid hg; clear hg
  have H_hb1 := Lib.hid hb1; clear hb1
  have H_sz1 := Lib.hid sz1; clear sz1
  go_wp2_with (fail)
  refine H_hb1.out.mono ?_
  rintro e w2 ⟨rfl, z2, f2, sz2⟩
  have sz2' : w2.heap.size = g + 4 := by omega
  have hb2 := getBint_any w2 (by have := H_hsz0.out; have := H_hg.out; omega)
  rw [sz2'] at hb2
  have H_z2 := Lib.hid z2; clear z2
  have H_f2 := Lib.hid f2; clear f2
  have H_sz2 := Lib.hid sz2; clear sz2
  have H_sz2' := Lib.hid sz2'; clear sz2'
  have H_hb2 := Lib.hid hb2; clear hb2
  go_wp2_with (fail)
  refine H_hb2.out.mono ?_
  rintro e w3 ⟨rfl, y3, f3, sz3⟩
  have ff := fresh_trans H_f2.out f3
  have bs : BS w w3 g m1 m2 c1 s1 c2 s2 (.slice none 0 0) (.slice none 0 0) 0 0 := ⟨row_fresh H_r1.out ff, row_fresh H_r2.out ff, row_fresh H_r3.out ff, H_z2.out.fresh f3, y3, fun k h => by simp [Value.ownBlock] at h, fun k h => by simp [Value.ownBlock] at h, fun k h => by simp [Value.ownBlock] at h, fresh_trans H_fa.out ff, H_hg.out, by omega⟩
  clear H_r1 H_r2 H_r3 H_fa H_z2 H_f2 y3 f3 sz3 ff
  have k0 := row_cell bs.r1 0
  have k1 := row_cell bs.r1 1
  have k2 := row_cell bs.r1 2
  have k3 := row_cell bs.r2 0
  have k4 := row_cell bs.r2 1
  have k5 := row_cell bs.r2 2
  simp at k0 k1 k2 k3 k4 k5
  have H_bs := Lib.hid bs; clear bs
  go_wp2_with (fail)
  refine (setFint_any (g + 3) _ 0 c1 _ (by have := H_hc1.out; omega) H_bs.out.z).mono ?_
  rintro e w4 ⟨rfl, hbs⟩
  obtain ⟨x4, bs⟩ := H_bs.out.setP hbs
  clear H_bs hbs
  clear k0 k1 k2 k3 k4 k5
  have k0 := row_cell bs.r1 0
  have k1 := row_cell bs.r1 1
  have k2 := row_cell bs.r1 2
  have k3 := row_cell bs.r2 0
  have k4 := row_cell bs.r2 1
  have k5 := row_cell bs.r2 2
  simp at k0 k1 k2 k3 k4 k5
  have H_bs := Lib.hid bs; clear bs
  go_wp2_with (fail)
  refine (Scale_any m1 s1 c1 _ H_hs1.out).mono ?_
  rintro e w5 ⟨rfl, f9⟩
  have bs := H_bs.out.fresh f9
  clear H_bs f9
  clear k0 k1 k2 k3 k4 k5
  have k0 := row_cell bs.r1 0
  have k1 := row_cell bs.r1 1
  have k2 := row_cell bs.r1 2
  have k3 := row_cell bs.r2 0
  have k4 := row_cell bs.r2 1
  have k5 := row_cell bs.r2 2
  simp at k0 k1 k2 k3 k4 k5
  have H_bs := Lib.hid bs; clear bs
  go_wp2_with (fail)
  refine (setFint_any (g + 4) _ 0 c2 _ (by have := H_hc2.out; omega) H_bs.out.y).mono ?_
  rintro e w6 ⟨rfl, hbs⟩
  obtain ⟨x6, bs⟩ := H_bs.out.setQ hbs
  clear H_bs hbs
  clear k0 k1 k2 k3 k4 k5
  have k0 := row_cell bs.r1 0
  have k1 := row_cell bs.r1 1
  have k2 := row_cell bs.r1 2
  have k3 := row_cell bs.r2 0
  have k4 := row_cell bs.r2 1
  have k5 := row_cell bs.r2 2
  simp at k0 k1 k2 k3 k4 k5
  have H_bs := Lib.hid bs; clear bs
  go_wp2_with (fail)
  refine (IsNeg_any m1 s1 c1 _).mono ?_
  rintro e w7 ⟨rfl, f9⟩
  have bs := H_bs.out.fresh f9
  clear H_bs f9
  clear k0 k1 k2 k3 k4 k5
  have k0 := row_cell bs.r1 0
  have k1 := row_cell bs.r1 1
  have k2 := row_cell bs.r1 2
  have k3 := row_cell bs.r2 0
  have k4 := row_cell bs.r2 1
  have k5 := row_cell bs.r2 2
  simp at k0 k1 k2 k3 k4 k5
  have H_bs := Lib.hid bs; clear bs
  go_wp2_with (fail)
  refine (Scale_any m2 s2 c2 _ H_hs2.out).mono ?_
  rintro e w8 ⟨rfl, f9⟩
  have bs := H_bs.out.fresh f9
  clear H_bs f9
  clear k0 k1 k2 k3 k4 k5
  have k0 := row_cell bs.r1 0
  have k1 := row_cell bs.r1 1
  have k2 := row_cell bs.r1 2
  have k3 := row_cell bs.r2 0
  have k4 := row_cell bs.r2 1
  have k5 := row_cell bs.r2 2
  simp at k0 k1 k2 k3 k4 k5
  have H_bs := Lib.hid bs; clear bs
  go_wp2_with (fail)
  refine (Scale_any m2 s2 c2 _ H_hs2.out).mono ?_
  rintro e w9 ⟨rfl, f9⟩
  have bs := H_bs.out.fresh f9
  clear H_bs f9
  clear k0 k1 k2 k3 k4 k5
  have k0 := row_cell bs.r1 0
  have k1 := row_cell bs.r1 1
  have k2 := row_cell bs.r1 2
  have k3 := row_cell bs.r2 0
  have k4 := row_cell bs.r2 1
  have k5 := row_cell bs.r2 2
  simp at k0 k1 k2 k3 k4 k5
  have H_bs := Lib.hid bs; clear bs
  go_wp2_with (fail)
  refine (H_hlsh.out (g + 4) _ _ (H_hG.out.fresh H_bs.out.f) (H_hP.out.fresh H_bs.out.f) H_bs.out.y).mono ?_
  rintro e w10 ⟨rfl, hbs⟩
  obtain ⟨x10, bs⟩ := H_bs.out.setQ hbs
  clear H_bs hbs
  clear k0 k1 k2 k3 k4 k5
  have k0 := row_cell bs.r1 0
  have k1 := row_cell bs.r1 1
  have k2 := row_cell bs.r1 2
  have k3 := row_cell bs.r2 0
  have k4 := row_cell bs.r2 1
  have k5 := row_cell bs.r2 2
  simp at k0 k1 k2 k3 k4 k5
  have H_bs := Lib.hid bs; clear bs
  go_wp2_with (fail)
  refine (IsNeg_any m2 s2 c2 _).mono ?_
  rintro e w11 ⟨rfl, f9⟩
  have bs := H_bs.out.fresh f9
  clear H_bs f9
  clear k0 k1 k2 k3 k4 k5
  have k0 := row_cell bs.r1 0
  have k1 := row_cell bs.r1 1
  have k2 := row_cell bs.r1 2
  have k3 := row_cell bs.r2 0
  have k4 := row_cell bs.r2 1
  have k5 := row_cell bs.r2 2
  simp at k0 k1 k2 k3 k4 k5
  have H_bs := Lib.hid bs; clear bs
  have hcmp := bcmp_any (g + 4) (g + 3) _ _ b c1 _ H_hbw.out H_hcw1.out (by omega) H_bs.out.y H_bs.out.z
  rw [H_t5.out] at hcmp
  have H_hcmp := Lib.hid hcmp; clear hcmp
  go_wp2_with (fail)
  refine (H_hcmp.out).mono ?_
  rintro e w12 ⟨rfl, qn, rfl⟩
  have bs := H_bs.out.fresh (fresh_drewN _ qn)
  clear H_bs
  generalize w11.drewN qn = w12 at *
  clear k0 k1 k2 k3 k4 k5
  have k0 := row_cell bs.r1 0
  have k1 := row_cell bs.r1 1
  have k2 := row_cell bs.r1 2
  have k3 := row_cell bs.r2 0
  have k4 := row_cell bs.r2 1
  have k5 := row_cell bs.r2 2
  simp at k0 k1 k2 k3 k4 k5
  have H_bs := Lib.hid bs; clear bs
  go_wp2_with (fail)
  refine (IsNeg_any m2 s2 c2 _).mono ?_
  rintro e w13 ⟨rfl, f9⟩
  have bs := H_bs.out.fresh f9
  clear H_bs f9
  clear k0 k1 k2 k3 k4 k5
  have k0 := row_cell bs.r1 0
  have k1 := row_cell bs.r1 1
  have k2 := row_cell bs.r1 2
  have k3 := row_cell bs.r2 0
  have k4 := row_cell bs.r2 1
  have k5 := row_cell bs.r2 2
  simp at k0 k1 k2 k3 k4 k5
  have H_bs := Lib.hid bs; clear bs
  have hsub := subAbs_any (g + 3) (g + 4) c1 b _ _ _ H_hcw1.out H_hbw.out (by omega) H_bs.out.z H_bs.out.y (.inr H_bs.out.od)
  rw [H_t6.out] at hsub
  have H_hsub := Lib.hid hsub; clear hsub
  go_wp2_with (fail)
  refine (H_hsub.out).mono ?_
  rintro e w14 ⟨rfl, hbs⟩
  obtain ⟨x14, bs⟩ := H_bs.out.setP hbs
  clear H_bs hbs
  clear k0 k1 k2 k3 k4 k5
  have k0 := row_cell bs.r1 0
  have k1 := row_cell bs.r1 1
  have k2 := row_cell bs.r1 2
  have k3 := row_cell bs.r2 0
  have k4 := row_cell bs.r2 1
  have k5 := row_cell bs.r2 2
  simp at k0 k1 k2 k3 k4 k5
  have H_bs := Lib.hid bs; clear bs
  go_wp2_with (fail)
  refine (H_hnb.out _ _ H_bs.out.f (fun k h => H_bs.out.ov k h) H_bs.out.z).mono ?_
  rintro e w15 ⟨ev, rfl, hev, k9⟩
  have r3 := row_keep H_bs.out.r3 k9 (fun hh => hh.elim (fun h => by omega) (fun h => by have := H_bs.out.ov _ h; omega))
  have fa : Fresh w w15 := H_bs.out.f.trans k9 (fun _ _ h => h) (fun k hk hh => by
    have := H_bs.out.hg
    rcases hh with rfl | hh
    · omega
    · have := H_bs.out.ov k hh; omega)
  have p0 := row_cell r3 0
  have p1 := row_cell r3 1
  have p2 := row_cell r3 2
  simp at p0 p1 p2
  have z0 : w15.frozen? ⟨g + 1 + 1, 0, none⟩ = false := frozen_of_row _ _ _ _ _ r3
  have z1 : w15.frozen? ⟨g + 1 + 1, 1, none⟩ = false := frozen_of_row _ _ _ _ _ r3
  have z2 : w15.frozen? ⟨g + 1 + 1, 2, none⟩ = false := frozen_of_row _ _ _ _ _ r3
  clear k9 k0 k1 k2 k3 k4 k5
  have H_r3 := Lib.hid r3; clear r3
  have H_fa := Lib.hid fa; clear fa
  have H_hev := Lib.hid hev; clear hev
  go_wp2_with (fail)
  refine leaves_cons (f := 110) (args := #[.pointer (some ⟨g + 4, 0, none⟩)]) (by simp) (by simp [go_sem]) ?_
  refine (putBint_idle _ _).mono ?_
  rintro e u' w'' ⟨rfl, rfl, rfl⟩
  refine leaves_cons (f := 110) (args := #[.pointer (some ⟨g + 3, 0, none⟩)]) (by first | (intro h; cases h; done) | simp [settle]) (by simp [go_sem]) ?_
  refine (putBint_idle _ _).mono ?_
  rintro e u2 wf ⟨rfl, rfl, rfl⟩
  refine ⟨_, results_cell_tmp_row rfl _ _ (g + 1 + 1) 62 #[.bool nz, .int .i8 sz, .int .u64 cz] (0, 0) _ rfl (row_set (row_set (row_set H_r3.out))) Tryz.underlying62 rfl (by kernel_rfl), ?_⟩
  exact ⟨ev, rfl, H_hev.out, Fresh.set3 H_fa.out (by have := H_hg.out; omega)⟩


set_option maxRecDepth 20000 in
set_option maxHeartbeats 4000000 in
theorem addBint_gt_more (m1 m2 : Bool) (c1 s1 c2 s2 : Nat) (w : World) (hG : Glob w) (hP : Pow10s w) (ms : Nat) (hs1 : s1 ≤ 19) (hs2 : s2 ≤ 19) (hc1 : c1 ≤ 9999999999999999999) (hc2 : c2 ≤ 9999999999999999999) (hsc : s2 < s1) (hsg : m1 ≠ m2) (hsum : ¬ c1 < c2 * 10 ^ (s1 - s2)) (nz : Bool) (sz cz : Nat) (Pv : Value → Prop)
    (hnb : ∀ V v, Fresh w V → (∀ k, v.ownBlock = some k → w.heap.size + 5 ≤ k) → BI V (w.heap.size + 3) v (adf (c1) (c2 * 10 ^ (s1 - s2))) → Calls Tryz.prog 120 #[.bool m1, .pointer (some ⟨w.heap.size + 3, 0, none⟩), .int .i64 (s1 : Nat), .int .i64 ms] V (NBOut V (w.heap.size + 3) v nz sz cz Pv)) :
    Calls Tryz.prog 100 #[gd m1 s1 c1, gd m2 s2 c2, .int .i64 ms] w (DOut w nz sz cz Pv) := by
  have hcw1 : c1 < wpow 39 := wpow_big (by omega)
  have hcw2 : c2 < wpow 39 := wpow_big (by omega)
  have t1 : decide ((s2 : Int) < (s1 : Int)) = true := by simp; omega
  have hbw : c2 * 10 ^ (s1 - s2) < wpow 39 := scaled_lt hc2 (by omega)
  obtain ⟨k, hk⟩ : ∃ k, k = s1 - s2 := ⟨_, rfl⟩
  have hkI : (s1 : Int) - (s2 : Int) = (k : Int) := by omega
  have hk19 : k ≤ 19 := by omega
  have hkw : IntKind.i64.wrap (k : Int) = (k : Int) := wrap_nat k (by omega)
  rw [← hk] at hbw hnb hsum
  have hlsh := fun g v W (hG : Glob W) (hP : Pow10s W) => lsh_self g v c2 k W hG hP hcw2 hk19
  obtain ⟨b, hb⟩ : ∃ b, b = c2 * 10 ^ k := ⟨_, rfl⟩
  rw [← hb] at hbw hnb hlsh hsum
  clear hb hk hk19
  have t4 : (m1 == m2) = false := by simpa using hsg
  have t5 : decide (0 < cmpN b c1) = false := cmpN_not hsum
  have t6 : (if b ≤ c1 then c1 - b else b - c1) = adf c1 b := by unfold adf; split <;> split <;> omega
  obtain ⟨cc, hcc⟩ : ∃ cc, cc = cmpN b c1 := ⟨_, rfl⟩
  rw [← hcc] at t5
  have H_hsg := Lib.hid hsg
  clear hsg
  generalize adf c1 b = q at *
  obtain ⟨g, hg⟩ : ∃ g, g = w.heap.size := ⟨_, rfl⟩
  have hsz0 : NG ≤ w.heap.size := hG.size
  have bx := boxes3 w #[.bool m1, .int .i8 s1, .int .u64 c1] #[.bool m2, .int .i8 s2, .int .u64 c2] #[.bool false, .int .i8 0, .int .u64 0] 62 62 62 g hg
  rw [← hg] at hnb
  have H_bx := Lib.hid bx; clear bx
  have H_hsz0 := Lib.hid hsz0; clear hsz0
  have H_hG := Lib.hid hG; clear hG
  have H_hP := Lib.hid hP; clear hP
  have H_hnb := Lib.hid hnb; clear hnb
  have H_hcw1 := Lib.hid hcw1; clear hcw1
  have H_hcw2 := Lib.hid hcw2; clear hcw2
  have H_hs1 := Lib.hid hs1; clear hs1
  have H_hs2 := Lib.hid hs2; clear hs2
  have H_hc1 := Lib.hid hc1; clear hc1
  have H_hc2 := Lib.hid hc2; clear hc2
  have H_hlsh := Lib.hid hlsh; clear hlsh
  have H_hbw := Lib.hid hbw; clear hbw
  have H_hsum := Lib.hid hsum; clear hsum
  have H_t6 := Lib.hid t6; clear t6
  have H_hcc := Lib.hid hcc; clear hcc
  go_enter_defers Tryz.func100, Tryz.ntmps100
  go_wp2_with (fail)
  generalize hw1 : ((w.alloc _).alloc _).alloc _ = w1
  rw [← hg]
  obtain ⟨r1, r2, r3, fa, _⟩ := H_bx.out w1 hw1
  have sz1 : w1.heap.size = g + 3 := by rw [← hw1, hg]; simp
  have hb1 := getBint_any w1 (by have := H_hsz0.out; omega)
  rw [sz1] at hb1
  have H_r1 := Lib.hid r1; clear r1
  have H_r2 := Lib.hid r2; clear r2
  have H_r3 := Lib.hid r3; clear r3
  have H_fa := Lib.hid fa; clear fa
  have H_hw1 := Lib.hid hw1; clear hw1
  have H_hg := Lib.hid hg; clear hg
  have H_hb1 := Lib.hid hb1; clear hb1
  have H_sz1 := Lib.hid sz1; clear sz1
  go_wp2_with (fail)
  refine H_hb1.out.mono ?_
  rintro e w2 ⟨rfl, z2, f2, sz2⟩
  have sz2' : w2.heap.size = g + 4 := by omega
  have hb2 := getBint_any w2 (by have := H_hsz0.out; have := H_hg.out; omega)
  rw [sz2'] at hb2
  have H_z2 := Lib.hid z2; clear z2
  have H_f2 := Lib.hid f2; clear f2
  have H_sz2 := Lib.hid sz2; clear sz2
  have H_sz2' := Lib.hid sz2'; clear sz2'
  have H_hb2 := Lib.hid hb2; clear hb2
  go_wp2_with (fail)
  refine H_hb2.out.mono ?_
  rintro e w3 ⟨rfl, y3, f3, sz3⟩
  have ff := fresh_trans H_f2.out f3
  have bs : BS w w3 g m1 m2 c1 s1 c2 s2 (.slice none 0 0) (.slice none 0 0) 0 0 := ⟨row_fresh H_r1.out ff, row_fresh H_r2.out ff, row_fresh H_r3.out ff, H_z2.out.fresh f3, y3, fun k h => by simp [Value.ownBlock] at h, fun k h => by simp [Value.ownBlock] at h, fun k h => by simp [Value.ownBlock] at h, fresh_trans H_fa.out ff, H_hg.out, by omega⟩
  clear H_r1 H_r2 H_r3 H_fa H_z2 H_f2 y3 f3 sz3 ff
  have k0 := row_cell bs.r1 0
  have k1 := row_cell bs.r1 1
  have k2 := row_cell bs.r1 2
  have k3 := row_cell bs.r2 0
  have k4 := row_cell bs.r2 1
  have k5 := row_cell bs.r2 2
  simp at k0 k1 k2 k3 k4 k5
  have H_bs := Lib.hid bs; clear bs
  go_wp2_with (fail)
  refine (setFint_any (g + 3) _ 0 c1 _ (by have := H_hc1.out; omega) H_bs.out.z).mono ?_
  rintro e w4 ⟨rfl, hbs⟩
  obtain ⟨x4, bs⟩ := H_bs.out.setP hbs
  clear H_bs hbs
  clear k0 k1 k2 k3 k4 k5
  have k0 := row_cell bs.r1 0
  have k1 := row_cell bs.r1 1
  have k2 := row_cell bs.r1 2
  have k3 := row_cell bs.r2 0
  have k4 := row_cell bs.r2 1
  have k5 := row_cell bs.r2 2
  simp at k0 k1 k2 k3 k4 k5
  have H_bs := Lib.hid bs; clear bs
  go_wp2_with (fail)
  refine (Scale_any m1 s1 c1 _ H_hs1.out).mono ?_
  rintro e w5 ⟨rfl, f9⟩
  have bs := H_bs.out.fresh f9
  clear H_bs f9
  clear k0 k1 k2 k3 k4 k5
  have k0 := row_cell bs.r1 0
  have k1 := row_cell bs.r1 1
  have k2 := row_cell bs.r1 2
  have k3 := row_cell bs.r2 0
  have k4 := row_cell bs.r2 1
  have k5 := row_cell bs.r2 2
  simp at k0 k1 k2 k3 k4 k5
  have H_bs := Lib.hid bs; clear bs
  go_wp2_with (fail)
  refine (setFint_any (g + 4) _ 0 c2 _ (by have := H_hc2.out; omega) H_bs.out.y).mono ?_
  rintro e w6 ⟨rfl, hbs⟩
  obtain ⟨x6, bs⟩ := H_bs.out.setQ hbs
  clear H_bs hbs
  clear k0 k1 k2 k3 k4 k5
  have k0 := row_cell bs.r1 0
  have k1 := row_cell bs.r1 1
  have k2 := row_cell bs.r1 2
  have k3 := row_cell bs.r2 0
  have k4 := row_cell bs.r2 1
  have k5 := row_cell bs.r2 2
  simp at k0 k1 k2 k3 k4 k5
  have H_bs := Lib.hid bs; clear bs
  go_wp2_with (fail)
  refine (IsNeg_any m1 s1 c1 _).mono ?_
  rintro e w7 ⟨rfl, f9⟩
  have bs := H_bs.out.fresh f9
  clear H_bs f9
  clear k0 k1 k2 k3 k4 k5
  have k0 := row_cell bs.r1 0
  have k1 := row_cell bs.r1 1
  have k2 := row_cell bs.r1 2
  have k3 := row_cell bs.r2 0
  have k4 := row_cell bs.r2 1
  have k5 := row_cell bs.r2 2
  simp at k0 k1 k2 k3 k4 k5
  have H_bs := Lib.hid bs; clear bs
  go_wp2_with (fail)
  refine (Scale_any m2 s2 c2 _ H_hs2.out).mono ?_
  rintro e w8 ⟨rfl, f9⟩
  have bs := H_bs.out.fresh f9
  clear H_bs f9
  clear k0 k1 k2 k3 k4 k5
  have k0 := row_cell bs.r1 0
  have k1 := row_cell bs.r1 1
  have k2 := row_cell bs.r1 2
  have k3 := row_cell bs.r2 0
  have k4 := row_cell bs.r2 1
  have k5 := row_cell bs.r2 2
  simp at k0 k1 k2 k3 k4 k5
  have H_bs := Lib.hid bs; clear bs
  go_wp2_with (fail)
  refine (Scale_any m2 s2 c2 _ H_hs2.out).mono ?_
  rintro e w9 ⟨rfl, f9⟩
  have bs := H_bs.out.fresh f9
  clear H_bs f9
  clear k0 k1 k2 k3 k4 k5
  have k0 := row_cell bs.r1 0
  have k1 := row_cell bs.r1 1
  have k2 := row_cell bs.r1 2
  have k3 := row_cell bs.r2 0
  have k4 := row_cell bs.r2 1
  have k5 := row_cell bs.r2 2
  simp at k0 k1 k2 k3 k4 k5
  have H_bs := Lib.hid bs; clear bs
  go_wp2_with (fail)
  refine (H_hlsh.out (g + 4) _ _ (H_hG.out.fresh H_bs.out.f) (H_hP.out.fresh H_bs.out.f) H_bs.out.y).mono ?_
  rintro e w10 ⟨rfl, hbs⟩
  obtain ⟨x10, bs⟩ := H_bs.out.setQ hbs
  clear H_bs hbs
  clear k0 k1 k2 k3 k4 k5
  have k0 := row_cell bs.r1 0
  have k1 := row_cell bs.r1 1
  have k2 := row_cell bs.r1 2
  have k3 := row_cell bs.r2 0
  have k4 := row_cell bs.r2 1
  have k5 := row_cell bs.r2 2
  simp at k0 k1 k2 k3 k4 k5
  have H_bs := Lib.hid bs; clear bs
  go_wp2_with (fail)
  refine (IsNeg_any m2 s2 c2 _).mono ?_
  rintro e w11 ⟨rfl, f9⟩
  have bs := H_bs.out.fresh f9
  clear H_bs f9
  clear k0 k1 k2 k3 k4 k5
  have k0 := row_cell bs.r1 0
  have k1 := row_cell bs.r1 1
  have k2 := row_cell bs.r1 2
  have k3 := row_cell bs.r2 0
  have k4 := row_cell bs.r2 1
  have k5 := row_cell bs.r2 2
  simp at k0 k1 k2 k3 k4 k5
  have H_bs := Lib.hid bs; clear bs
  have hcmp := bcmp_any (g + 4) (g + 3) _ _ b c1 _ H_hbw.out H_hcw1.out (by omega) H_bs.out.y H_bs.out.z
  rw [← H_hcc.out] at hcmp
  have H_hcmp := Lib.hid hcmp; clear hcmp
  go_wp2_with (fail)
  refine (H_hcmp.out).mono ?_
  rintro e w12 ⟨rfl, qn, rfl⟩
  have bs := H_bs.out.fresh (fresh_drewN _ qn)
  clear H_bs
  generalize w11.drewN qn = w12 at *
  clear k0 k1 k2 k3 k4 k5
  have k0 := row_cell bs.r1 0
  have k1 := row_cell bs.r1 1
  have k2 := row_cell bs.r1 2
  have k3 := row_cell bs.r2 0
  have k4 := row_cell bs.r2 1
  have k5 := row_cell bs.r2 2
  simp at k0 k1 k2 k3 k4 k5
  have H_bs := Lib.hid bs; clear bs
  have hsub := subAbs_any (g + 3) (g + 4) c1 b _ _ _ H_hcw1.out H_hbw.out (by omega) H_bs.out.z H_bs.out.y (.inr H_bs.out.od)
  rw [H_t6.out] at hsub
  have H_hsub := Lib.hid hsub; clear hsub
  go_wp2_with (fail)
  refine (H_hsub.out).mono ?_
  rintro e w13 ⟨rfl, hbs⟩
  obtain ⟨x13, bs⟩ := H_bs.out.setP hbs
  clear H_bs hbs
  clear k0 k1 k2 k3 k4 k5
  have k0 := row_cell bs.r1 0
  have k1 := row_cell bs.r1 1
  have k2 := row_cell bs.r1 2
  have k3 := row_cell bs.r2 0
  have k4 := row_cell bs.r2 1
  have k5 := row_cell bs.r2 2
  simp at k0 k1 k2 k3 k4 k5
  have H_bs := Lib.hid bs; clear bs
  go_wp2_with (fail)
  refine (H_hnb.out _ _ H_bs.out.f (fun k h => H_bs.out.ov k h) H_bs.out.z).mono ?_
  rintro e w14 ⟨ev, rfl, hev, k9⟩
  have r3 := row_keep H_bs.out.r3 k9 (fun hh => hh.elim (fun h => by omega) (fun h => by have := H_bs.out.ov _ h; omega))
  have fa : Fresh w w14 := H_bs.out.f.trans k9 (fun _ _ h => h) (fun k hk hh => by
    have := H_bs.out.hg
    rcases hh with rfl | hh
    · omega
    · have := H_bs.out.ov k hh; omega)
  have p0 := row_cell r3 0
  have p1 := row_cell r3 1
  have p2 := row_cell r3 2
  simp at p0 p1 p2
  have z0 : w14.frozen? ⟨g + 1 + 1, 0, none⟩ = false := frozen_of_row _ _ _ _ _ r3
  have z1 : w14.frozen? ⟨g + 1 + 1, 1, none⟩ = false := frozen_of_row _ _ _ _ _ r3
  have z2 : w14.frozen? ⟨g + 1 + 1, 2, none⟩ = false := frozen_of_row _ _ _ _ _ r3
  clear k9 k0 k1 k2 k3 k4 k5
  have H_r3 := Lib.hid r3; clear r3
  have H_fa := Lib.hid fa; clear fa
  have H_hev := Lib.hid hev; clear hev
  go_wp2_with (fail)
  refine leaves_cons (f := 110) (args := #[.pointer (some ⟨g + 4, 0, none⟩)]) (by simp) (by simp [go_sem]) ?_
  refine (putBint_idle _ _).mono ?_
  rintro e u' w'' ⟨rfl, rfl, rfl⟩
  refine leaves_cons (f := 110) (args := #[.pointer (some ⟨g + 3, 0, none⟩)]) (by first | (intro h; cases h; done) | simp [settle]) (by simp [go_sem]) ?_
  refine (putBint_idle _ _).mono ?_
  rintro e u2 wf ⟨rfl, rfl, rfl⟩
  refine ⟨_, results_cell_tmp_row rfl _ _ (g + 1 + 1) 62 #[.bool nz, .int .i8 sz, .int .u64 cz] (0, 0) _ rfl (row_set (row_set (row_set H_r3.out))) Tryz.underlying62 rfl (by kernel_rfl), ?_⟩
  exact ⟨ev, rfl, H_hev.out, Fresh.set3 H_fa.out (by have := H_hg.out; omega)⟩


set_option maxRecDepth 20000 in
set_option maxHeartbeats 4000000 in
theorem addBint_eq_same (m1 m2 : Bool) (c1 s1 c2 s2 : Nat) (w : World) (hG : Glob w) (hP : Pow10s w) (ms : Nat) (hs1 : s1 ≤ 19) (hs2 : s2 ≤ 19) (hc1 : c1 ≤ 9999999999999999999) (hc2 : c2 ≤ 9999999999999999999) (hsc : s1 = s2) (hsg : m1 = m2) (nz : Bool) (sz cz : Nat) (Pv : Value → Prop)
    (hnb : ∀ V v, Fresh w V → (∀ k, v.ownBlock = some k → w.heap.size + 5 ≤ k) → BI V (w.heap.size + 3) v (c1 + c2) → Calls Tryz.prog 120 #[.bool m1, .pointer (some ⟨w.heap.size + 3, 0, none⟩), .int .i64 (s1 : Nat), .int .i64 ms] V (NBOut V (w.heap.size + 3) v nz sz cz Pv)) :
    Calls Tryz.prog 100 #[gd m1 s1 c1, gd m2 s2 c2, .int .i64 ms] w (DOut w nz sz cz Pv) := by
  have hcw1 : c1 < wpow 39 := wpow_big (by omega)
  have hcw2 : c2 < wpow 39 := wpow_big (by omega)
  subst hsc
  have t1 : decide ((s1 : Int) < (s1 : Int)) = false := by simp
  subst hsg
  obtain ⟨g, hg⟩ : ∃ g, g = w.heap.size := ⟨_, rfl⟩
  have hsz0 : NG ≤ w.heap.size := hG.size
  have bx := boxes3 w #[.bool m1, .int .i8 s1, .int .u64 c1] #[.bool m1, .int .i8 s1, .int .u64 c2] #[.bool false, .int .i8 0, .int .u64 0] 62 62 62 g hg
  rw [← hg] at hnb
  have H_bx := Lib.hid bx; clear bx
  have H_hsz0 := Lib.hid hsz0; clear hsz0
  have H_hG := Lib.hid hG; clear hG
  have H_hP := Lib.hid hP; clear hP
  have H_hnb := Lib.hid hnb; clear hnb
  have H_hcw1 := Lib.hid hcw1; clear hcw1
  have H_hcw2 := Lib.hid hcw2; clear hcw2
  have H_hs1 := Lib.hid hs1; clear hs1
  have H_hs2 := Lib.hid hs2; clear hs2
  have H_hc1 := Lib.hid hc1; clear hc1
  have H_hc2 := Lib.hid hc2; clear hc2
  go_enter_defers Tryz.func100, Tryz.ntmps100
  go_wp2_with (fail)
  generalize hw1 : ((w.alloc _).alloc _).alloc _ = w1
  rw [← hg]
  obtain ⟨r1, r2, r3, fa, _⟩ := H_bx.out w1 hw1
  have sz1 : w1.heap.size = g + 3 := by rw [← hw1, hg]; simp
  have hb1 := getBint_any w1 (by have := H_hsz0.out; omega)
  rw [sz1] at hb1
  have H_r1 := Lib.hid r1; clear r1
  have H_r2 := Lib.hid r2; clear r2
  have H_r3 := Lib.hid r3; clear r3
  have H_fa := Lib.hid fa; clear fa
  have H_hw1 := Lib.hid hw1; clear hw1
  have H_hg := Lib.hid hg; clear hg
  have H_hb1 := Lib.hid hb1; clear hb1
  have H_sz1 := Lib.hid sz1; clear sz1
  go_wp2_with (fail)
  refine H_hb1.out.mono ?_
  rintro e w2 ⟨rfl, z2, f2, sz2⟩
  have sz2' : w2.heap.size = g + 4 := by omega
  have hb2 := getBint_any w2 (by have := H_hsz0.out; have := H_hg.out; omega)
  rw [sz2'] at hb2
  have H_z2 := Lib.hid z2; clear z2
  have H_f2 := Lib.hid f2; clear f2
  have H_sz2 := Lib.hid sz2; clear sz2
  have H_sz2' := Lib.hid sz2'; clear sz2'
  have H_hb2 := Lib.hid hb2; clear hb2
  go_wp2_with (fail)
  refine H_hb2.out.mono ?_
  rintro e w3 ⟨rfl, y3, f3, sz3⟩
  have ff := fresh_trans H_f2.out f3
  have bs : BS w w3 g m1 m1 c1 s1 c2 s1 (.slice none 0 0) (.slice none 0 0) 0 0 := ⟨row_fresh H_r1.out ff, row_fresh H_r2.out ff, row_fresh H_r3.out ff, H_z2.out.fresh f3, y3, fun k h => by simp [Value.ownBlock] at h, fun k h => by simp [Value.ownBlock] at h, fun k h => by simp [Value.ownBlock] at h, fresh_trans H_fa.out ff, H_hg.out, by omega⟩
  clear H_r1 H_r2 H_r3 H_fa H_z2 H_f2 y3 f3 sz3 ff
  have k0 := row_cell bs.r1 0
  have k1 := row_cell bs.r1 1
  have k2 := row_cell bs.r1 2
  have k3 := row_cell bs.r2 0
  have k4 := row_cell bs.r2 1
  have k5 := row_cell bs.r2 2
  simp at k0 k1 k2 k3 k4 k5
  have H_bs := Lib.hid bs; clear bs
  go_wp2_with (fail)
  refine (setFint_any (g + 3) _ 0 c1 _ (by have := H_hc1.out; omega) H_bs.out.z).mono ?_
  rintro e w4 ⟨rfl, hbs⟩
  obtain ⟨x4, bs⟩ := H_bs.out.setP hbs
  clear H_bs hbs
  clear k0 k1 k2 k3 k4 k5
  have k0 := row_cell bs.r1 0
  have k1 := row_cell bs.r1 1
  have k2 := row_cell bs.r1 2
  have k3 := row_cell bs.r2 0
  have k4 := row_cell bs.r2 1
  have k5 := row_cell bs.r2 2
  simp at k0 k1 k2 k3 k4 k5
  have H_bs := Lib.hid bs; clear bs
  go_wp2_with (fail)
  refine (Scale_any m1 s1 c1 _ H_hs1.out).mono ?_
  rintro e w5 ⟨rfl, f9⟩
  have bs := H_bs.out.fresh f9
  clear H_bs f9
  clear k0 k1 k2 k3 k4 k5
  have k0 := row_cell bs.r1 0
  have k1 := row_cell bs.r1 1
  have k2 := row_cell bs.r1 2
  have k3 := row_cell bs.r2 0
  have k4 := row_cell bs.r2 1
  have k5 := row_cell bs.r2 2
  simp at k0 k1 k2 k3 k4 k5
  have H_bs := Lib.hid bs; clear bs
  go_wp2_with (fail)
  refine (setFint_any (g + 4) _ 0 c2 _ (by have := H_hc2.out; omega) H_bs.out.y).mono ?_
  rintro e w6 ⟨rfl, hbs⟩
  obtain ⟨x6, bs⟩ := H_bs.out.setQ hbs
  clear H_bs hbs
  clear k0 k1 k2 k3 k4 k5
  have k0 := row_cell bs.r1 0
  have k1 := row_cell bs.r1 1
  have k2 := row_cell bs.r1 2
  have k3 := row_cell bs.r2 0
  have k4 := row_cell bs.r2 1
  have k5 := row_cell bs.r2 2
  simp at k0 k1 k2 k3 k4 k5
  have H_bs := Lib.hid bs; clear bs
  go_wp2_with (fail)
  refine (IsNeg_any m1 s1 c1 _).mono ?_
  rintro e w7 ⟨rfl, f9⟩
  have bs := H_bs.out.fresh f9
  clear H_bs f9
  clear k0 k1 k2 k3 k4 k5
  have k0 := row_cell bs.r1 0
  have k1 := row_cell bs.r1 1
  have k2 := row_cell bs.r1 2
  have k3 := row_cell bs.r2 0
  have k4 := row_cell bs.r2 1
  have k5 := row_cell bs.r2 2
  simp at k0 k1 k2 k3 k4 k5
  have H_bs := Lib.hid bs; clear bs
  go_wp2_with (fail)
  refine (Scale_any m1 s1 c2 _ H_hs1.out).mono ?_
  rintro e w8 ⟨rfl, f9⟩
  have bs := H_bs.out.fresh f9
  clear H_bs f9
  clear k0 k1 k2 k3 k4 k5
  have k0 := row_cell bs.r1 0
  have k1 := row_cell bs.r1 1
  have k2 := row_cell bs.r1 2
  have k3 := row_cell bs.r2 0
  have k4 := row_cell bs.r2 1
  have k5 := row_cell bs.r2 2
  simp at k0 k1 k2 k3 k4 k5
  have H_bs := Lib.hid bs; clear bs
  go_wp2_with (fail)
  refine (Scale_any m1 s1 c2 _ H_hs1.out).mono ?_
  rintro e w9 ⟨rfl, f9⟩
  have bs := H_bs.out.fresh f9
  clear H_bs f9
  clear k0 k1 k2 k3 k4 k5
  have k0 := row_cell bs.r1 0
  have k1 := row_cell bs.r1 1
  have k2 := row_cell bs.r1 2
  have k3 := row_cell bs.r2 0
  have k4 := row_cell bs.r2 1
  have k5 := row_cell bs.r2 2
  simp at k0 k1 k2 k3 k4 k5
  have H_bs := Lib.hid bs; clear bs
  go_wp2_with (fail)
  refine (IsNeg_any m1 s1 c2 _).mono ?_
  rintro e w10 ⟨rfl, f9⟩
  have bs := H_bs.out.fresh f9
  clear H_bs f9
  clear k0 k1 k2 k3 k4 k5
  have k0 := row_cell bs.r1 0
  have k1 := row_cell bs.r1 1
  have k2 := row_cell bs.r1 2
  have k3 := row_cell bs.r2 0
  have k4 := row_cell bs.r2 1
  have k5 := row_cell bs.r2 2
  simp at k0 k1 k2 k3 k4 k5
  have H_bs := Lib.hid bs; clear bs
  go_wp2_with (fail)
  refine (badd_any (g + 3) (g + 3) (g + 4) _ _ _ c1 c1 c2 _ H_hcw1.out H_hcw2.out H_bs.out.z H_bs.out.z H_bs.out.y (.inl rfl) (.inr H_bs.out.od)).mono ?_
  rintro e w11 ⟨rfl, hbs⟩
  obtain ⟨x11, bs⟩ := H_bs.out.setP hbs
  clear H_bs hbs
  clear k0 k1 k2 k3 k4 k5
  have k0 := row_cell bs.r1 0
  have k1 := row_cell bs.r1 1
  have k2 := row_cell bs.r1 2
  have k3 := row_cell bs.r2 0
  have k4 := row_cell bs.r2 1
  have k5 := row_cell bs.r2 2
  simp at k0 k1 k2 k3 k4 k5
  have H_bs := Lib.hid bs; clear bs
  go_wp2_with (fail)
  refine (H_hnb.out _ _ H_bs.out.f (fun k h => H_bs.out.ov k h) H_bs.out.z).mono ?_
  rintro e w12 ⟨ev, rfl, hev, k9⟩
  have r3 := row_keep H_bs.out.r3 k9 (fun hh => hh.elim (fun h => by omega) (fun h => by have := H_bs.out.ov _ h; omega))
  have fa : Fresh w w12 := H_bs.out.f.trans k9 (fun _ _ h => h) (fun k hk hh => by
    have := H_bs.out.hg
    rcases hh with rfl | hh
    · omega
    · have := H_bs.out.ov k hh; omega)
  have p0 := row_cell r3 0
  have p1 := row_cell r3 1
  have p2 := row_cell r3 2
  simp at p0 p1 p2
  have z0 : w12.frozen? ⟨g + 1 + 1, 0, none⟩ = false := frozen_of_row _ _ _ _ _ r3
  have z1 : w12.frozen? ⟨g + 1 + 1, 1, none⟩ = false := frozen_of_row _ _ _ _ _ r3
  have z2 : w12.frozen? ⟨g + 1 + 1, 2, none⟩ = false := frozen_of_row _ _ _ _ _ r3
  clear k9 k0 k1 k2 k3 k4 k5
  have H_r3 := Lib.hid r3; clear r3
  have H_fa := Lib.hid fa; clear fa
  have H_hev := Lib.hid hev; clear hev
  go_wp2_with (fail)
  refine leaves_cons (f := 110) (args := #[.pointer (some ⟨g + 4, 0, none⟩)]) (by simp) (by simp [go_sem]) ?_
  refine (putBint_idle _ _).mono ?_
  rintro e u' w'' ⟨rfl, rfl, rfl⟩
  refine leaves_cons (f := 110) (args := #[.pointer (some ⟨g + 3, 0, none⟩)]) (by first | (intro h; cases h; done) | simp [settle]) (by simp [go_sem]) ?_
  refine (putBint_idle _ _).mono ?_
  rintro e u2 wf ⟨rfl, rfl, rfl⟩
  refine ⟨_, results_cell_tmp_row rfl _ _ (g + 1 + 1) 62 #[.bool nz, .int .i8 sz, .int .u64 cz] (0, 0) _ rfl (row_set (row_set (row_set H_r3.out))) Tryz.underlying62 rfl (by kernel_rfl), ?_⟩
  exact ⟨ev, rfl, H_hev.out, Fresh.set3 H_fa.out (by have := H_hg.out; omega)⟩


set_option maxRecDepth 20000 in
set_option maxHeartbeats 4000000 in
theorem addBint_eq_less (m1 m2 : Bool) (c1 s1 c2 s2 : Nat) (w : World) (hG : Glob w) (hP : Pow10s w) (ms : Nat) (hs1 : s1 ≤ 19) (hs2 : s2 ≤ 19) (hc1 : c1 ≤ 9999999999999999999) (hc2 : c2 ≤ 9999999999999999999) (hsc : s1 = s2) (hsg : m1 ≠ m2) (hsum : c1 < c2) (nz : Bool) (sz cz : Nat) (Pv : Value → Prop)
    (hnb : ∀ V v, Fresh w V → (∀ k, v.ownBlock = some k → w.heap.size + 5 ≤ k) → BI V (w.heap.size + 3) v (adf (c1) (c2)) → Calls Tryz.prog 120 #[.bool m2, .pointer (some ⟨w.heap.size + 3, 0, none⟩), .int .i64 (s1 : Nat), .int .i64 ms] V (NBOut V (w.heap.size + 3) v nz sz cz Pv)) :
    Calls Tryz.prog 100 #[gd m1 s1 c1, gd m2 s2 c2, .int .i64 ms] w (DOut w nz sz cz Pv) := by
  have hcw1 : c1 < wpow 39 := wpow_big (by omega)
  have hcw2 : c2 < wpow 39 := wpow_big (by omega)
  subst hsc
  have t1 : decide ((s1 : Int) < (s1 : Int)) = false := by simp
  have t4 : (m1 == m2) = false := by simpa using hsg
  have t5 : cmpN (c2) (c1) = 1 := by unfold cmpN; rw [if_neg (by omega), if_pos hsum]
  have t6 : (if c2 ≤ c1 then c1 - c2 else c2 - c1) = adf c1 c2 := by unfold adf; split <;> split <;> omega
  have H_hsg := Lib.hid hsg
  clear hsg
  generalize adf c1 c2 = q at *
  obtain ⟨g, hg⟩ : ∃ g, g = w.heap.size := ⟨_, rfl⟩
  have hsz0 : NG ≤ w.heap.size := hG.size
  have bx := boxes3 w #[.bool m1, .int .i8 s1, .int .u64 c1] #[.bool m2, .int .i8 s1, .int .u64 c2] #[.bool false, .int .i8 0, .int .u64 0] 62 62 62 g hg
  rw [← hg] at hnb
  have H_bx := Lib.hid bx; clear bx
  have H_hsz0 := Lib.hid hsz0; clear hsz0
  have H_hG := Lib.hid hG; clear hG
  have H_hP := Lib.hid hP; clear hP
  have H_hnb := Lib.hid hnb; clear hnb
  have H_hcw1 := Lib.hid hcw1; clear hcw1
  have H_hcw2 := Lib.hid hcw2; clear hcw2
  have H_hs1 := Lib.hid hs1; clear hs1
  have H_hs2 := Lib.hid hs2; clear hs2
  have H_hc1 := Lib.hid hc1; clear hc1
  have H_hc2 := Lib.hid hc2; clear hc2
  have H_hsum := Lib.hid hsum; clear hsum
  have H_t6 := Lib.hid t6; clear t6
  have H_t5 := Lib.hid t5; clear t5
  go_enter_defers Tryz.func100, Tryz.ntmps100
  go_wp2_with (fail)
  generalize hw1 : ((w.alloc _).alloc _).alloc _ = w1
  rw [← hg]
  obtain ⟨r1, r2, r3, fa, _⟩ := H_bx.out w1 hw1
  have sz1 : w1.heap.size = g + 3 := by rw [← hw1, hg]; simp
  have hb1 := getBint_any w1 (by have := H_hsz0.out; omega)
  rw [sz1] at hb1
  have H_r1 := Lib.hid r1; clear r1
  have H_r2 := Lib.hid r2; clear r2
  have H_r3 := Lib.hid r3; clear r3
  have H_fa := Lib.hid fa; clear fa
  have H_hw1 := Lib.hid hw1; clear hw1
  have H_hg := Lib.hid hg; clear hg
  have H_hb1 := Lib.hid hb1; clear hb1
  have H_sz1 := Lib.hid sz1; clear sz1
  go_wp2_with (fail)
  refine H_hb1.out.mono ?_
  rintro e w2 ⟨rfl, z2, f2, sz2⟩
  have sz2' : w2.heap.size = g + 4 := by omega
  have hb2 := getBint_any w2 (by have := H_hsz0.out; have := H_hg.out; omega)
  rw [sz2'] at hb2
  have H_z2 := Lib.hid z2; clear z2
  have H_f2 := Lib.hid f2; clear f2
  have H_sz2 := Lib.hid sz2; clear sz2
  have H_sz2' := Lib.hid sz2'; clear sz2'
  have H_hb2 := Lib.hid hb2; clear hb2
  go_wp2_with (fail)
  refine H_hb2.out.mono ?_
  rintro e w3 ⟨rfl, y3, f3, sz3⟩
  have ff := fresh_trans H_f2.out f3
  have bs : BS w w3 g m1 m2 c1 s1 c2 s1 (.slice none 0 0) (.slice none 0 0) 0 0 := ⟨row_fresh H_r1.out ff, row_fresh H_r2.out ff, row_fresh H_r3.out ff, H_z2.out.fresh f3, y3, fun k h => by simp [Value.ownBlock] at h, fun k h => by simp [Value.ownBlock] at h, fun k h => by simp [Value.ownBlock] at h, fresh_trans H_fa.out ff, H_hg.out, by omega⟩
  clear H_r1 H_r2 H_r3 H_fa H_z2 H_f2 y3 f3 sz3 ff
  have k0 := row_cell bs.r1 0
  have k1 := row_cell bs.r1 1
  have k2 := row_cell bs.r1 2
  have k3 := row_cell bs.r2 0
  have k4 := row_cell bs.r2 1
  have k5 := row_cell bs.r2 2
  simp at k0 k1 k2 k3 k4 k5
  have H_bs := Lib.hid bs; clear bs
  go_wp2_with (fail)
  refine (setFint_any (g + 3) _ 0 c1 _ (by have := H_hc1.out; omega) H_bs.out.z).mono ?_
  rintro e w4 ⟨rfl, hbs⟩
  obtain ⟨x4, bs⟩ := H_bs.out.setP hbs
  clear H_bs hbs
  clear k0 k1 k2 k3 k4 k5
  have k0 := row_cell bs.r1 0
  have k1 := row_cell bs.r1 1
  have k2 := row_cell bs.r1 2
  have k3 := row_cell bs.r2 0
  have k4 := row_cell bs.r2 1
  have k5 := row_cell bs.r2 2
  simp at k0 k1 k2 k3 k4 k5
  have H_bs := Lib.hid bs; clear bs
  go_wp2_with (fail)
  refine (Scale_any m1 s1 c1 _ H_hs1.out).mono ?_
  rintro e w5 ⟨rfl, f9⟩
  have bs := H_bs.out.fresh f9
  clear H_bs f9
  clear k0 k1 k2 k3 k4 k5
  have k0 := row_cell bs.r1 0
  have k1 := row_cell bs.r1 1
  have k2 := row_cell bs.r1 2
  have k3 := row_cell bs.r2 0
  have k4 := row_cell bs.r2 1
  have k5 := row_cell bs.r2 2
  simp at k0 k1 k2 k3 k4 k5
  have H_bs := Lib.hid bs; clear bs
  go_wp2_with (fail)
  refine (setFint_any (g + 4) _ 0 c2 _ (by have := H_hc2.out; omega) H_bs.out.y).mono ?_
  rintro e w6 ⟨rfl, hbs⟩
  obtain ⟨x6, bs⟩ := H_bs.out.setQ hbs
  clear H_bs hbs
  clear k0 k1 k2 k3 k4 k5
  have k0 := row_cell bs.r1 0
  have k1 := row_cell bs.r1 1
  have k2 := row_cell bs.r1 2
  have k3 := row_cell bs.r2 0
  have k4 := row_cell bs.r2 1
  have k5 := row_cell bs.r2 2
  simp at k0 k1 k2 k3 k4 k5
  have H_bs := Lib.hid bs; clear bs
  go_wp2_with (fail)
  refine (IsNeg_any m1 s1 c1 _).mono ?_
  rintro e w7 ⟨rfl, f9⟩
  have bs := H_bs.out.fresh f9
  clear H_bs f9
  clear k0 k1 k2 k3 k4 k5
  have k0 := row_cell bs.r1 0
  have k1 := row_cell bs.r1 1
  have k2 := row_cell bs.r1 2
  have k3 := row_cell bs.r2 0
  have k4 := row_cell bs.r2 1
  have k5 := row_cell bs.r2 2
  simp at k0 k1 k2 k3 k4 k5
  have H_bs := Lib.hid bs; clear bs
  go_wp2_with (fail)
  refine (Scale_any m2 s1 c2 _ H_hs1.out).mono ?_
  rintro e w8 ⟨rfl, f9⟩
  have bs := H_bs.out.fresh f9
  clear H_bs f9
  clear k0 k1 k2 k3 k4 k5
  have k0 := row_cell bs.r1 0
  have k1 := row_cell bs.r1 1
  have k2 := row_cell bs.r1 2
  have k3 := row_cell bs.r2 0
  have k4 := row_cell bs.r2 1
  have k5 := row_cell bs.r2 2
  simp at k0 k1 k2 k3 k4 k5
  have H_bs := Lib.hid bs; clear bs
  go_wp2_with (fail)
  refine (Scale_any m2 s1 c2 _ H_hs1.out).mono ?_
  rintro e w9 ⟨rfl, f9⟩
  have bs := H_bs.out.fresh f9
  clear H_bs f9
  clear k0 k1 k2 k3 k4 k5
  have k0 := row_cell bs.r1 0
  have k1 := row_cell bs.r1 1
  have k2 := row_cell bs.r1 2
  have k3 := row_cell bs.r2 0
  have k4 := row_cell bs.r2 1
  have k5 := row_cell bs.r2 2
  simp at k0 k1 k2 k3 k4 k5
  have H_bs := Lib.hid bs; clear bs
  go_wp2_with (fail)
  refine (IsNeg_any m2 s1 c2 _).mono ?_
  rintro e w10 ⟨rfl, f9⟩
  have bs := H_bs.out.fresh f9
  clear H_bs f9
  clear k0 k1 k2 k3 k4 k5
  have k0 := row_cell bs.r1 0
  have k1 := row_cell bs.r1 1
  have k2 := row_cell bs.r1 2
  have k3 := row_cell bs.r2 0
  have k4 := row_cell bs.r2 1
  have k5 := row_cell bs.r2 2
  simp at k0 k1 k2 k3 k4 k5
  have H_bs := Lib.hid bs; clear bs
  have hcmp := bcmp_any (g + 4) (g + 3) _ _ c2 c1 _ H_hcw2.out H_hcw1.out (by omega) H_bs.out.y H_bs.out.z
  rw [H_t5.out] at hcmp
  have H_hcmp := Lib.hid hcmp; clear hcmp
  go_wp2_with (fail)
  refine (H_hcmp.out).mono ?_
  rintro e w11 ⟨rfl, qn, rfl⟩
  have bs := H_bs.out.fresh (fresh_drewN _ qn)
  clear H_bs
  generalize w10.drewN qn = w11 at *
  clear k0 k1 k2 k3 k4 k5
  have k0 := row_cell bs.r1 0
  have k1 := row_cell bs.r1 1
  have k2 := row_cell bs.r1 2
  have k3 := row_cell bs.r2 0
  have k4 := row_cell bs.r2 1
  have k5 := row_cell bs.r2 2
  simp at k0 k1 k2 k3 k4 k5
  have H_bs := Lib.hid bs; clear bs
  go_wp2_with (fail)
  refine (IsNeg_any m2 s1 c2 _).mono ?_
  rintro e w12 ⟨rfl, f9⟩
  have bs := H_bs.out.fresh f9
  clear H_bs f9
  clear k0 k1 k2 k3 k4 k5
  have k0 := row_cell bs.r1 0
  have k1 := row_cell bs.r1 1
  have k2 := row_cell bs.r1 2
  have k3 := row_cell bs.r2 0
  have k4 := row_cell bs.r2 1
  have k5 := row_cell bs.r2 2
  simp at k0 k1 k2 k3 k4 k5
  have H_bs := Lib.hid bs; clear bs
  have hsub := subAbs_any (g + 3) (g + 4) c1 c2 _ _ _ H_hcw1.out H_hcw2.out (by omega) H_bs.out.z H_bs.out.y (.inr H_bs.out.od)
  rw [H_t6.out] at hsub
  have H_hsub := Lib.hid hsub; clear hsub
  go_wp2_with (fail)
  refine (H_hsub.out).mono ?_
  rintro e w13 ⟨rfl, hbs⟩
  obtain ⟨x13, bs⟩ := H_bs.out.setP hbs
  clear H_bs hbs
  clear k0 k1 k2 k3 k4 k5
  have k0 := row_cell bs.r1 0
  have k1 := row_cell bs.r1 1
  have k2 := row_cell bs.r1 2
  have k3 := row_cell bs.r2 0
  have k4 := row_cell bs.r2 1
  have k5 := row_cell bs.r2 2
  simp at k0 k1 k2 k3 k4 k5
  have H_bs := Lib.hid bs; clear bs
  go_wp2_with (fail)
  refine (H_hnb.out _ _ H_bs.out.f (fun k h => H_bs.out.ov k h) H_bs.out.z).mono ?_
  rintro e w14 ⟨ev, rfl, hev, k9⟩
  have r3 := row_keep H_bs.out.r3 k9 (fun hh => hh.elim (fun h => by omega) (fun h => by have := H_bs.out.ov _ h; omega))
  have fa : Fresh w w14 := H_bs.out.f.trans k9 (fun _ _ h => h) (fun k hk hh => by
    have := H_bs.out.hg
    rcases hh with rfl | hh
    · omega
    · have := H_bs.out.ov k hh; omega)
  have p0 := row_cell r3 0
  have p1 := row_cell r3 1
  have p2 := row_cell r3 2
  simp at p0 p1 p2
  have z0 : w14.frozen? ⟨g + 1 + 1, 0, none⟩ = false := frozen_of_row _ _ _ _ _ r3
  have z1 : w14.frozen? ⟨g + 1 + 1, 1, none⟩ = false := frozen_of_row _ _ _ _ _ r3
  have z2 : w14.frozen? ⟨g + 1 + 1, 2, none⟩ = false := frozen_of_row _ _ _ _ _ r3
  clear k9 k0 k1 k2 k3 k4 k5
  have H_r3 := Lib.hid r3; clear r3
  have H_fa := Lib.hid fa; clear fa
  have H_hev := Lib.hid hev; clear hev
  go_wp2_with (fail)
  refine leaves_cons (f := 110) (args := #[.pointer (some ⟨g + 4, 0, none⟩)]) (by simp) (by simp [go_sem]) ?_
  refine (putBint_idle _ _).mono ?_
  rintro e u' w'' ⟨rfl, rfl, rfl⟩
  refine leaves_cons (f := 110) (args := #[.pointer (some ⟨g + 3, 0, none⟩)]) (by first | (intro h; cases h; done) | simp [settle]) (by simp [go_sem]) ?_
  refine (putBint_idle _ _).mono ?_
  rintro e u2 wf ⟨rfl, rfl, rfl⟩
  refine ⟨_, results_cell_tmp_row rfl _ _ (g + 1 + 1) 62 #[.bool nz, .int .i8 sz, .int .u64 cz] (0, 0) _ rfl (row_set (row_set (row_set H_r3.out))) Tryz.underlying62 rfl (by kernel_rfl), ?_⟩
  exact ⟨ev, rfl, H_hev.out, Fresh.set3 H_fa.out (by have := H_hg.out; omega)⟩


set_option maxRecDepth 20000 in
set_option maxHeartbeats 4000000 in
theorem addBint_eq_more (m1 m2 : Bool) (c1 s1 c2 s2 : Nat) (w : World) (hG : Glob w) (hP : Pow10s w) (ms : Nat) (hs1 : s1 ≤ 19) (hs2 : s2 ≤ 19) (hc1 : c1 ≤ 9999999999999999999) (hc2 : c2 ≤ 9999999999999999999) (hsc : s1 = s2) (hsg : m1 ≠ m2) (hsum : ¬ c1 < c2) (nz : Bool) (sz cz : Nat) (Pv : Value → Prop)
    (hnb : ∀ V v, Fresh w V → (∀ k, v.ownBlock = some k → w.heap.size + 5 ≤ k) → BI V (w.heap.size + 3) v (adf (c1) (c2)) → Calls Tryz.prog 120 #[.bool m1, .pointer (some ⟨w.heap.size + 3, 0, none⟩), .int .i64 (s1 : Nat), .int .i64 ms] V (NBOut V (w.heap.size + 3) v nz sz cz Pv)) :
    Calls Tryz.prog 100 #[gd m1 s1 c1, gd m2 s2 c2, .int .i64 ms] w (DOut w nz sz cz Pv) := by
  have hcw1 : c1 < wpow 39 := wpow_big (by omega)
  have hcw2 : c2 < wpow 39 := wpow_big (by omega)
  subst hsc
  have t1 : decide ((s1 : Int) < (s1 : Int)) = false := by simp
  have t4 : (m1 == m2) = false := by simpa using hsg
  have t5 : decide (0 < cmpN c2 c1) = false := cmpN_not hsum
  have t6 : (if c2 ≤ c1 then c1 - c2 else c2 - c1) = adf c1 c2 := by unfold adf; split <;> split <;> omega
  obtain ⟨cc, hcc⟩ : ∃ cc, cc = cmpN c2 c1 := ⟨_, rfl⟩
  rw [← hcc] at t5
  have H_hsg := Lib.hid hsg
  clear hsg
  generalize adf c1 c2 = q at *
  obtain ⟨g, hg⟩ : ∃ g, g = w.heap.size := ⟨_, rfl⟩
  have hsz0 : NG ≤ w.heap.size := hG.size
  have bx := boxes3 w #[.bool m1, .int .i8 s1, .int .u64 c1] #[.bool m2, .int .i8 s1, .int .u64 c2] #[.bool false, .int .i8 0, .int .u64 0] 62 62 62 g hg
  rw [← hg] at hnb
  have H_bx := Lib.hid bx; clear bx
  have H_hsz0 := Lib.hid hsz0; clear hsz0
  have H_hG := Lib.hid hG; clear hG
  have H_hP := Lib.hid hP; clear hP
  have H_hnb := Lib.hid hnb; clear hnb
  have H_hcw1 := Lib.hid hcw1; clear hcw1
  have H_hcw2 := Lib.hid hcw2; clear hcw2
  have H_hs1 := Lib.hid hs1; clear hs1
  have H_hs2 := Lib.hid hs2; clear hs2
  have H_hc1 := Lib.hid hc1; clear hc1
  have H_hc2 := Lib.hid hc2; clear hc2
  have H_hsum := Lib.hid hsum; clear hsum
  have H_t6 := Lib.hid t6; clear t6
  have H_hcc := Lib.hid hcc; clear hcc
  go_enter_defers Tryz.func100, Tryz.ntmps100
  go_wp2_with (fail)
  generalize hw1 : ((w.alloc _).alloc _).alloc _ = w1
  rw [← hg]
  obtain ⟨r1, r2, r3, fa, _⟩ := H_bx.out w1 hw1
  have sz1 : w1.heap.size = g + 3 := by rw [← hw1, hg]; simp
  have hb1 := getBint_any w1 (by have := H_hsz0.out; omega)
  rw [sz1] at hb1
  have H_r1 := Lib.hid r1; clear r1
  have H_r2 := Lib.hid r2; clear r2
  have H_r3 := Lib.hid r3; clear r3
  have H_fa := Lib.hid fa; clear fa
  have H_hw1 := Lib.hid hw1; clear hw1
  have H_hg := Lib.hid hg; clear hg
  have H_hb1 := Lib.hid hb1; clear hb1
  have H_sz1 := Lib.hid sz1; clear sz1
  go_wp2_with (fail)
  refine H_hb1.out.mono ?_
  rintro e w2 ⟨rfl, z2, f2, sz2⟩
  have sz2' : w2.heap.size = g + 4 := by omega
  have hb2 := getBint_any w2 (by have := H_hsz0.out; have := H_hg.out; omega)
  rw [sz2'] at hb2
  have H_z2 := Lib.hid z2; clear z2
  have H_f2 := Lib.hid f2; clear f2
  have H_sz2 := Lib.hid sz2; clear sz2
  have H_sz2' := Lib.hid sz2'; clear sz2'
  have H_hb2 := Lib.hid hb2; clear hb2
  go_wp2_with (fail)
  refine H_hb2.out.mono ?_
  rintro e w3 ⟨rfl, y3, f3, sz3⟩
  have ff := fresh_trans H_f2.out f3
  have bs : BS w w3 g m1 m2 c1 s1 c2 s1 (.slice none 0 0) (.slice none 0 0) 0 0 := ⟨row_fresh H_r1.out ff, row_fresh H_r2.out ff, row_fresh H_r3.out ff, H_z2.out.fresh f3, y3, fun k h => by simp [Value.ownBlock] at h, fun k h => by simp [Value.ownBlock] at h, fun k h => by simp [Value.ownBlock] at h, fresh_trans H_fa.out ff, H_hg.out, by omega⟩
  clear H_r1 H_r2 H_r3 H_fa H_z2 H_f2 y3 f3 sz3 ff
  have k0 := row_cell bs.r1 0
  have k1 := row_cell bs.r1 1
  have k2 := row_cell bs.r1 2
  have k3 := row_cell bs.r2 0
  have k4 := row_cell bs.r2 1
  have k5 := row_cell bs.r2 2
  simp at k0 k1 k2 k3 k4 k5
  have H_bs := Lib.hid bs; clear bs
  go_wp2_with (fail)
  refine (setFint_any (g + 3) _ 0 c1 _ (by have := H_hc1.out; omega) H_bs.out.z).mono ?_
  rintro e w4 ⟨rfl, hbs⟩
  obtain ⟨x4, bs⟩ := H_bs.out.setP hbs
  clear H_bs hbs
  clear k0 k1 k2 k3 k4 k5
  have k0 := row_cell bs.r1 0
  have k1 := row_cell bs.r1 1
  have k2 := row_cell bs.r1 2
  have k3 := row_cell bs.r2 0
  have k4 := row_cell bs.r2 1
  have k5 := row_cell bs.r2 2
  simp at k0 k1 k2 k3 k4 k5
  have H_bs := Lib.hid bs; clear bs
  go_wp2_with (fail)
  refine (Scale_any m1 s1 c1 _ H_hs1.out).mono ?_
  rintro e w5 ⟨rfl, f9⟩
  have bs := H_bs.out.fresh f9
  clear H_bs f9
  clear k0 k1 k2 k3 k4 k5
  have k0 := row_cell bs.r1 0
  have k1 := row_cell bs.r1 1
  have k2 := row_cell bs.r1 2
  have k3 := row_cell bs.r2 0
  have k4 := row_cell bs.r2 1
  have k5 := row_cell bs.r2 2
  simp at k0 k1 k2 k3 k4 k5
  have H_bs := Lib.hid bs; clear bs
  go_wp2_with (fail)
  refine (setFint_any (g + 4) _ 0 c2 _ (by have := H_hc2.out; omega) H_bs.out.y).mono ?_
  rintro e w6 ⟨rfl, hbs⟩
  obtain ⟨x6, bs⟩ := H_bs.out.setQ hbs
  clear H_bs hbs
  clear k0 k1 k2 k3 k4 k5
  have k0 := row_cell bs.r1 0
  have k1 := row_cell bs.r1 1
  have k2 := row_cell bs.r1 2
  have k3 := row_cell bs.r2 0
  have k4 := row_cell bs.r2 1
  have k5 := row_cell bs.r2 2
  simp at k0 k1 k2 k3 k4 k5
  have H_bs := Lib.hid bs; clear bs
  go_wp2_with (fail)
  refine (IsNeg_any m1 s1 c1 _).mono ?_
  rintro e w7 ⟨rfl, f9⟩
  have bs := H_bs.out.fresh f9
  clear H_bs f9
  clear k0 k1 k2 k3 k4 k5
  have k0 := row_cell bs.r1 0
  have k1 := row_cell bs.r1 1
  have k2 := row_cell bs.r1 2
  have k3 := row_cell bs.r2 0
  have k4 := row_cell bs.r2 1
  have k5 := row_cell bs.r2 2
  simp at k0 k1 k2 k3 k4 k5
  have H_bs := Lib.hid bs; clear bs
  go_wp2_with (fail)
  refine (Scale_any m2 s1 c2 _ H_hs1.out).mono ?_
  rintro e w8 ⟨rfl, f9⟩
  have bs := H_bs.out.fresh f9
  clear H_bs f9
  clear k0 k1 k2 k3 k4 k5
  have k0 := row_cell bs.r1 0
  have k1 := row_cell bs.r1 1
  have k2 := row_cell bs.r1 2
  have k3 := row_cell bs.r2 0
  have k4 := row_cell bs.r2 1
  have k5 := row_cell bs.r2 2
  simp at k0 k1 k2 k3 k4 k5
  have H_bs := Lib.hid bs; clear bs
  go_wp2_with (fail)
  refine (Scale_any m2 s1 c2 _ H_hs1.out).mono ?_
  rintro e w9 ⟨rfl, f9⟩
  have bs := H_bs.out.fresh f9
  clear H_bs f9
  clear k0 k1 k2 k3 k4 k5
  have k0 := row_cell bs.r1 0
  have k1 := row_cell bs.r1 1
  have k2 := row_cell bs.r1 2
  have k3 := row_cell bs.r2 0
  have k4 := row_cell bs.r2 1
  have k5 := row_cell bs.r2 2
  simp at k0 k1 k2 k3 k4 k5
  have H_bs := Lib.hid bs; clear bs
  go_wp2_with (fail)
  refine (IsNeg_any m2 s1 c2 _).mono ?_
  rintro e w10 ⟨rfl, f9⟩
  have bs := H_bs.out.fresh f9
  clear H_bs f9
  clear k0 k1 k2 k3 k4 k5
  have k0 := row_cell bs.r1 0
  have k1 := row_cell bs.r1 1
  have k2 := row_cell bs.r1 2
  have k3 := row_cell bs.r2 0
  have k4 := row_cell bs.r2 1
  have k5 := row_cell bs.r2 2
  simp at k0 k1 k2 k3 k4 k5
  have H_bs := Lib.hid bs; clear bs
  have hcmp := bcmp_any (g + 4) (g + 3) _ _ c2 c1 _ H_hcw2.out H_hcw1.out (by omega) H_bs.out.y H_bs.out.z
  rw [← H_hcc.out] at hcmp
  have H_hcmp := Lib.hid hcmp; clear hcmp
  go_wp2_with (fail)
  refine (H_hcmp.out).mono ?_
  rintro e w11 ⟨rfl, qn, rfl⟩
  have bs := H_bs.out.fresh (fresh_drewN _ qn)
  clear H_bs
  generalize w10.drewN qn = w11 at *
  clear k0 k1 k2 k3 k4 k5
  have k0 := row_cell bs.r1 0
  have k1 := row_cell bs.r1 1
  have k2 := row_cell bs.r1 2
  have k3 := row_cell bs.r2 0
  have k4 := row_cell bs.r2 1
  have k5 := row_cell bs.r2 2
  simp at k0 k1 k2 k3 k4 k5
  have H_bs := Lib.hid bs; clear bs
  have hsub := subAbs_any (g + 3) (g + 4) c1 c2 _ _ _ H_hcw1.out H_hcw2.out (by omega) H_bs.out.z H_bs.out.y (.inr H_bs.out.od)
  rw [H_t6.out] at hsub
  have H_hsub := Lib.hid hsub; clear hsub
  go_wp2_with (fail)
  refine (H_hsub.out).mono ?_
  rintro e w12 ⟨rfl, hbs⟩
  obtain ⟨x12, bs⟩ := H_bs.out.setP hbs
  clear H_bs hbs
  clear k0 k1 k2 k3 k4 k5
  have k0 := row_cell bs.r1 0
  have k1 := row_cell bs.r1 1
  have k2 := row_cell bs.r1 2
  have k3 := row_cell bs.r2 0
  have k4 := row_cell bs.r2 1
  have k5 := row_cell bs.r2 2
  simp at k0 k1 k2 k3 k4 k5
  have H_bs := Lib.hid bs; clear bs
  go_wp2_with (fail)
  refine (H_hnb.out _ _ H_bs.out.f (fun k h => H_bs.out.ov k h) H_bs.out.z).mono ?_
  rintro e w13 ⟨ev, rfl, hev, k9⟩
  have r3 := row_keep H_bs.out.r3 k9 (fun hh => hh.elim (fun h => by omega) (fun h => by have := H_bs.out.ov _ h; omega))
  have fa : Fresh w w13 := H_bs.out.f.trans k9 (fun _ _ h => h) (fun k hk hh => by
    have := H_bs.out.hg
    rcases hh with rfl | hh
    · omega
    · have := H_bs.out.ov k hh; omega)
  have p0 := row_cell r3 0
  have p1 := row_cell r3 1
  have p2 := row_cell r3 2
  simp at p0 p1 p2
  have z0 : w13.frozen? ⟨g + 1 + 1, 0, none⟩ = false := frozen_of_row _ _ _ _ _ r3
  have z1 : w13.frozen? ⟨g + 1 + 1, 1, none⟩ = false := frozen_of_row _ _ _ _ _ r3
  have z2 : w13.frozen? ⟨g + 1 + 1, 2, none⟩ = false := frozen_of_row _ _ _ _ _ r3
  clear k9 k0 k1 k2 k3 k4 k5
  have H_r3 := Lib.hid r3; clear r3
  have H_fa := Lib.hid fa; clear fa
  have H_hev := Lib.hid hev; clear hev
  go_wp2_with (fail)
  refine leaves_cons (f := 110) (args := #[.pointer (some ⟨g + 4, 0, none⟩)]) (by simp) (by simp [go_sem]) ?_
  refine (putBint_idle _ _).mono ?_
  rintro e u' w'' ⟨rfl, rfl, rfl⟩
  refine leaves_cons (f := 110) (args := #[.pointer (some ⟨g + 3, 0, none⟩)]) (by first | (intro h; cases h; done) | simp [settle]) (by simp [go_sem]) ?_
  refine (putBint_idle _ _).mono ?_
  rintro e u2 wf ⟨rfl, rfl, rfl⟩
  refine ⟨_, results_cell_tmp_row rfl _ _ (g + 1 + 1) 62 #[.bool nz, .int .i8 sz, .int .u64 cz] (0, 0) _ rfl (row_set (row_set (row_set H_r3.out))) Tryz.underlying62 rfl (by kernel_rfl), ?_⟩
  exact ⟨ev, rfl, H_hev.out, Fresh.set3 H_fa.out (by have := H_hg.out; omega)⟩


set_option maxRecDepth 20000 in
set_option maxHeartbeats 4000000 in
theorem addBint_lt_same (m1 m2 : Bool) (c1 s1 c2 s2 : Nat) (w : World) (hG : Glob w) (hP : Pow10s w) (ms : Nat) (hs1 : s1 ≤ 19) (hs2 : s2 ≤ 19) (hc1 : c1 ≤ 9999999999999999999) (hc2 : c2 ≤ 9999999999999999999) (hsc : s1 < s2) (hsg : m1 = m2) (nz : Bool) (sz cz : Nat) (Pv : Value → Prop)
    (hnb : ∀ V v, Fresh w V → (∀ k, v.ownBlock = some k → w.heap.size + 5 ≤ k) → BI V (w.heap.size + 3) v (c1 * 10 ^ (s2 - s1) + c2) → Calls Tryz.prog 120 #[.bool m1, .pointer (some ⟨w.heap.size + 3, 0, none⟩), .int .i64 (s2 : Nat), .int .i64 ms] V (NBOut V (w.heap.size + 3) v nz sz cz Pv)) :
    Calls Tryz.prog 100 #[gd m1 s1 c1, gd m2 s2 c2, .int .i64 ms] w (DOut w nz sz cz Pv) := by
  have hcw1 : c1 < wpow 39 := wpow_big (by omega)
  have hcw2 : c2 < wpow 39 := wpow_big (by omega)
  have t1 : decide ((s2 : Int) < (s1 : Int)) = false := by simp; omega
  have t1n : ¬ s2 < s1 := by omega
  have t2 : decide ((s1 : Int) < (s2 : Int)) = true := by simp; omega
  have hbw : c1 * 10 ^ (s2 - s1) < wpow 39 := scaled_lt hc1 (by omega)
  obtain ⟨k, hk⟩ : ∃ k, k = s2 - s1 := ⟨_, rfl⟩
  have hkI : (s2 : Int) - (s1 : Int) = (k : Int) := by omega
  have hk19 : k ≤ 19 := by omega
  have hkw : IntKind.i64.wrap (k : Int) = (k : Int) := wrap_nat k (by omega)
  rw [← hk] at hbw hnb
  have hlsh := fun g v W (hG : Glob W) (hP : Pow10s W) => lsh_self g v c1 k W hG hP hcw1 hk19
  obtain ⟨b, hb⟩ : ∃ b, b = c1 * 10 ^ k := ⟨_, rfl⟩
  rw [← hb] at hbw hnb hlsh
  clear hb hk hk19
  subst hsg
  obtain ⟨g, hg⟩ : ∃ g, g = w.heap.size := ⟨_, rfl⟩
  have hsz0 : NG ≤ w.heap.size := hG.size
  have bx := boxes3 w #[.bool m1, .int .i8 s1, .int .u64 c1] #[.bool m1, .int .i8 s2, .int .u64 c2] #[.bool false, .int .i8 0, .int .u64 0] 62 62 62 g hg
  rw [← hg] at hnb
  have H_bx := Lib.hid bx; clear bx
  have H_hsz0 := Lib.hid hsz0; clear hsz0
  have H_hG := Lib.hid hG; clear hG
  have H_hP := Lib.hid hP; clear hP
  have H_hnb := Lib.hid hnb; clear hnb
  have H_hcw1 := Lib.hid hcw1; clear hcw1
  have H_hcw2 := Lib.hid hcw2; clear hcw2
  have H_hs1 := Lib.hid hs1; clear hs1
  have H_hs2 := Lib.hid hs2; clear hs2
  have H_hc1 := Lib.hid hc1; clear hc1
  have H_hc2 := Lib.hid hc2; clear hc2
  have H_hlsh := Lib.hid hlsh; clear hlsh
  have H_hbw := Lib.hid hbw; clear hbw
  go_enter_defers Tryz.func100, Tryz.ntmps100
  go_wp2_with (fail)
  generalize hw1 : ((w.alloc _).alloc _).alloc _ = w1
  rw [← hg]
  obtain ⟨r1, r2, r3, fa, _⟩ := H_bx.out w1 hw1
  have sz1 : w1.heap.size = g + 3 := by rw [← hw1, hg]; simp
  have hb1 := getBint_any w1 (by have := H_hsz0.out; omega)
  rw [sz1] at hb1
  have H_r1 := Lib.hid r1; clear r1
  have H_r2 := Lib.hid r2; clear r2
  have H_r3 := Lib.hid r3; clear r3
  have H_fa := Lib.hid fa; clear fa
  have H_hw1 := Lib.hid hw1; clear hw1
  have H_hg := Lib.hid hg; clear hg
  have H_hb1 := Lib.hid hb1; clear hb1
  have H_sz1 := Lib.hid sz1; clear sz1
  go_wp2_with (fail)
  refine H_hb1.out.mono ?_
  rintro e w2 ⟨rfl, z2, f2, sz2⟩
  have sz2' : w2.heap.size = g + 4 := by omega
  have hb2 := getBint_any w2 (by have := H_hsz0.out; have := H_hg.out; omega)
  rw [sz2'] at hb2
  have H_z2 := Lib.hid z2; clear z2
  have H_f2 := Lib.hid f2; clear f2
  have H_sz2 := Lib.hid sz2; clear sz2
  have H_sz2' := Lib.hid sz2'; clear sz2'
  have H_hb2 := Lib.hid hb2; clear hb2
  go_wp2_with (fail)
  refine H_hb2.out.mono ?_
  rintro e w3 ⟨rfl, y3, f3, sz3⟩
  have ff := fresh_trans H_f2.out f3
  have bs : BS w w3 g m1 m1 c1 s1 c2 s2 (.slice none 0 0) (.slice none 0 0) 0 0 := ⟨row_fresh H_r1.out ff, row_fresh H_r2.out ff, row_fresh H_r3.out ff, H_z2.out.fresh f3, y3, fun k h => by simp [Value.ownBlock] at h, fun k h => by simp [Value.ownBlock] at h, fun k h => by simp [Value.ownBlock] at h, fresh_trans H_fa.out ff, H_hg.out, by omega⟩
  clear H_r1 H_r2 H_r3 H_fa H_z2 H_f2 y3 f3 sz3 ff
  have k0 := row_cell bs.r1 0
  have k1 := row_cell bs.r1 1
  have k2 := row_cell bs.r1 2
  have k3 := row_cell bs.r2 0
  have k4 := row_cell bs.r2 1
  have k5 := row_cell bs.r2 2
  simp at k0 k1 k2 k3 k4 k5
  have H_bs := Lib.hid bs; clear bs
  go_wp2_with (fail)
  refine (setFint_any (g + 3) _ 0 c1 _ (by have := H_hc1.out; omega) H_bs.out.z).mono ?_
  rintro e w4 ⟨rfl, hbs⟩
  obtain ⟨x4, bs⟩ := H_bs.out.setP hbs
  clear H_bs hbs
  clear k0 k1 k2 k3 k4 k5
  have k0 := row_cell bs.r1 0
  have k1 := row_cell bs.r1 1
  have k2 := row_cell bs.r1 2
  have k3 := row_cell bs.r2 0
  have k4 := row_cell bs.r2 1
  have k5 := row_cell bs.r2 2
  simp at k0 k1 k2 k3 k4 k5
  have H_bs := Lib.hid bs; clear bs
  go_wp2_with (fail)
  refine (Scale_any m1 s1 c1 _ H_hs1.out).mono ?_
  rintro e w5 ⟨rfl, f9⟩
  have bs := H_bs.out.fresh f9
  clear H_bs f9
  clear k0 k1 k2 k3 k4 k5
  have k0 := row_cell bs.r1 0
  have k1 := row_cell bs.r1 1
  have k2 := row_cell bs.r1 2
  have k3 := row_cell bs.r2 0
  have k4 := row_cell bs.r2 1
  have k5 := row_cell bs.r2 2
  simp at k0 k1 k2 k3 k4 k5
  have H_bs := Lib.hid bs; clear bs
  go_wp2_with (fail)
  refine (setFint_any (g + 4) _ 0 c2 _ (by have := H_hc2.out; omega) H_bs.out.y).mono ?_
  rintro e w6 ⟨rfl, hbs⟩
  obtain ⟨x6, bs⟩ := H_bs.out.setQ hbs
  clear H_bs hbs
  clear k0 k1 k2 k3 k4 k5
  have k0 := row_cell bs.r1 0
  have k1 := row_cell bs.r1 1
  have k2 := row_cell bs.r1 2
  have k3 := row_cell bs.r2 0
  have k4 := row_cell bs.r2 1
  have k5 := row_cell bs.r2 2
  simp at k0 k1 k2 k3 k4 k5
  have H_bs := Lib.hid bs; clear bs
  go_wp2_with (fail)
  refine (IsNeg_any m1 s1 c1 _).mono ?_
  rintro e w7 ⟨rfl, f9⟩
  have bs := H_bs.out.fresh f9
  clear H_bs f9
  clear k0 k1 k2 k3 k4 k5
  have k0 := row_cell bs.r1 0
  have k1 := row_cell bs.r1 1
  have k2 := row_cell bs.r1 2
  have k3 := row_cell bs.r2 0
  have k4 := row_cell bs.r2 1
  have k5 := row_cell bs.r2 2
  simp at k0 k1 k2 k3 k4 k5
  have H_bs := Lib.hid bs; clear bs
  go_wp2_with (fail)
  refine (Scale_any m1 s2 c2 _ H_hs2.out).mono ?_
  rintro e w8 ⟨rfl, f9⟩
  have bs := H_bs.out.fresh f9
  clear H_bs f9
  clear k0 k1 k2 k3 k4 k5
  have k0 := row_cell bs.r1 0
  have k1 := row_cell bs.r1 1
  have k2 := row_cell bs.r1 2
  have k3 := row_cell bs.r2 0
  have k4 := row_cell bs.r2 1
  have k5 := row_cell bs.r2 2
  simp at k0 k1 k2 k3 k4 k5
  have H_bs := Lib.hid bs; clear bs
  go_wp2_with (fail)
  refine (Scale_any m1 s2 c2 _ H_hs2.out).mono ?_
  rintro e w9 ⟨rfl, f9⟩
  have bs := H_bs.out.fresh f9
  clear H_bs f9
  clear k0 k1 k2 k3 k4 k5
  have k0 := row_cell bs.r1 0
  have k1 := row_cell bs.r1 1
  have k2 := row_cell bs.r1 2
  have k3 := row_cell bs.r2 0
  have k4 := row_cell bs.r2 1
  have k5 := row_cell bs.r2 2
  simp at k0 k1 k2 k3 k4 k5
  have H_bs := Lib.hid bs; clear bs
  go_wp2_with (fail)
  refine (Scale_any m1 s2 c2 _ H_hs2.out).mono ?_
  rintro e w10 ⟨rfl, f9⟩
  have bs := H_bs.out.fresh f9
  clear H_bs f9
  clear k0 k1 k2 k3 k4 k5
  have k0 := row_cell bs.r1 0
  have k1 := row_cell bs.r1 1
  have k2 := row_cell bs.r1 2
  have k3 := row_cell bs.r2 0
  have k4 := row_cell bs.r2 1
  have k5 := row_cell bs.r2 2
  simp at k0 k1 k2 k3 k4 k5
  have H_bs := Lib.hid bs; clear bs
  go_wp2_with (fail)
  refine (H_hlsh.out (g + 3) _ _ (H_hG.out.fresh H_bs.out.f) (H_hP.out.fresh H_bs.out.f) H_bs.out.z).mono ?_
  rintro e w11 ⟨rfl, hbs⟩
  obtain ⟨x11, bs⟩ := H_bs.out.setP hbs
  clear H_bs hbs
  clear k0 k1 k2 k3 k4 k5
  have k0 := row_cell bs.r1 0
  have k1 := row_cell bs.r1 1
  have k2 := row_cell bs.r1 2
  have k3 := row_cell bs.r2 0
  have k4 := row_cell bs.r2 1
  have k5 := row_cell bs.r2 2
  simp at k0 k1 k2 k3 k4 k5
  have H_bs := Lib.hid bs; clear bs
  go_wp2_with (fail)
  refine (Scale_any m1 s2 c2 _ H_hs2.out).mono ?_
  rintro e w12 ⟨rfl, f9⟩
  have bs := H_bs.out.fresh f9
  clear H_bs f9
  clear k0 k1 k2 k3 k4 k5
  have k0 := row_cell bs.r1 0
  have k1 := row_cell bs.r1 1
  have k2 := row_cell bs.r1 2
  have k3 := row_cell bs.r2 0
  have k4 := row_cell bs.r2 1
  have k5 := row_cell bs.r2 2
  simp at k0 k1 k2 k3 k4 k5
  have H_bs := Lib.hid bs; clear bs
  go_wp2_with (fail)
  refine (IsNeg_any m1 s2 c2 _).mono ?_
  rintro e w13 ⟨rfl, f9⟩
  have bs := H_bs.out.fresh f9
  clear H_bs f9
  clear k0 k1 k2 k3 k4 k5
  have k0 := row_cell bs.r1 0
  have k1 := row_cell bs.r1 1
  have k2 := row_cell bs.r1 2
  have k3 := row_cell bs.r2 0
  have k4 := row_cell bs.r2 1
  have k5 := row_cell bs.r2 2
  simp at k0 k1 k2 k3 k4 k5
  have H_bs := Lib.hid bs; clear bs
  go_wp2_with (fail)
  refine (badd_any (g + 3) (g + 3) (g + 4) _ _ _ b b c2 _ H_hbw.out H_hcw2.out H_bs.out.z H_bs.out.z H_bs.out.y (.inl rfl) (.inr H_bs.out.od)).mono ?_
  rintro e w14 ⟨rfl, hbs⟩
  obtain ⟨x14, bs⟩ := H_bs.out.setP hbs
  clear H_bs hbs
  clear k0 k1 k2 k3 k4 k5
  have k0 := row_cell bs.r1 0
  have k1 := row_cell bs.r1 1
  have k2 := row_cell bs.r1 2
  have k3 := row_cell bs.r2 0
  have k4 := row_cell bs.r2 1
  have k5 := row_cell bs.r2 2
  simp at k0 k1 k2 k3 k4 k5
  have H_bs := Lib.hid bs; clear bs
  go_wp2_with (fail)
  refine (H_hnb.out _ _ H_bs.out.f (fun k h => H_bs.out.ov k h) H_bs.out.z).mono ?_
  rintro e w15 ⟨ev, rfl, hev, k9⟩
  have r3 := row_keep H_bs.out.r3 k9 (fun hh => hh.elim (fun h => by omega) (fun h => by have := H_bs.out.ov _ h; omega))
  have fa : Fresh w w15 := H_bs.out.f.trans k9 (fun _ _ h => h) (fun k hk hh => by
    have := H_bs.out.hg
    rcases hh with rfl | hh
    · omega
    · have := H_bs.out.ov k hh; omega)
  have p0 := row_cell r3 0
  have p1 := row_cell r3 1
  have p2 := row_cell r3 2
  simp at p0 p1 p2
  have z0 : w15.frozen? ⟨g + 1 + 1, 0, none⟩ = false := frozen_of_row _ _ _ _ _ r3
  have z1 : w15.frozen? ⟨g + 1 + 1, 1, none⟩ = false := frozen_of_row _ _ _ _ _ r3
  have z2 : w15.frozen? ⟨g + 1 + 1, 2, none⟩ = false := frozen_of_row _ _ _ _ _ r3
  clear k9 k0 k1 k2 k3 k4 k5
  have H_r3 := Lib.hid r3; clear r3
  have H_fa := Lib.hid fa; clear fa
  have H_hev := Lib.hid hev; clear hev
  go_wp2_with (fail)
  refine leaves_cons (f := 110) (args := #[.pointer (some ⟨g + 4, 0, none⟩)]) (by simp) (by simp [go_sem]) ?_
  refine (putBint_idle _ _).mono ?_
  rintro e u' w'' ⟨rfl, rfl, rfl⟩
  refine leaves_cons (f := 110) (args := #[.pointer (some ⟨g + 3, 0, none⟩)]) (by first | (intro h; cases h; done) | simp [settle]) (by simp [go_sem]) ?_
  refine (putBint_idle _ _).mono ?_
  rintro e u2 wf ⟨rfl, rfl, rfl⟩
  refine ⟨_, results_cell_tmp_row rfl _ _ (g + 1 + 1) 62 #[.bool nz, .int .i8 sz, .int .u64 cz] (0, 0) _ rfl (row_set (row_set (row_set H_r3.out))) Tryz.underlying62 rfl (by kernel_rfl), ?_⟩
  exact ⟨ev, rfl, H_hev.out, Fresh.set3 H_fa.out (by have := H_hg.out; omega)⟩


set_option maxRecDepth 20000 in
set_option maxHeartbeats 4000000 in
theorem addBint_lt_less (m1 m2 : Bool) (c1 s1 c2 s2 : Nat) (w : World) (hG : Glob w) (hP : Pow10s w) (ms : Nat) (hs1 : s1 ≤ 19) (hs2 : s2 ≤ 19) (hc1 : c1 ≤ 9999999999999999999) (hc2 : c2 ≤ 9999999999999999999) (hsc : s1 < s2) (hsg : m1 ≠ m2) (hsum : c1 * 10 ^ (s2 - s1) < c2) (nz : Bool) (sz cz : Nat) (Pv : Value → Prop)
    (hnb : ∀ V v, Fresh w V → (∀ k, v.ownBlock = some k → w.heap.size + 5 ≤ k) → BI V (w.heap.size + 3) v (adf (c1 * 10 ^ (s2 - s1)) (c2)) → Calls Tryz.prog 120 #[.bool m2, .pointer (some ⟨w.heap.size + 3, 0, none⟩), .int .i64 (s2 : Nat), .int .i64 ms] V (NBOut V (w.heap.size + 3) v nz sz cz Pv)) :
    Calls Tryz.prog 100 #[gd m1 s1 c1, gd m2 s2 c2, .int .i64 ms] w (DOut w nz sz cz Pv) := by
  have hcw1 : c1 < wpow 39 := wpow_big (by omega)
  have hcw2 : c2 < wpow 39 := wpow_big (by omega)
  have t1 : decide ((s2 : Int) < (s1 : Int)) = false := by simp; omega
  have t1n : ¬ s2 < s1 := by omega
  have t2 : decide ((s1 : Int) < (s2 : Int)) = true := by simp; omega
  have hbw : c1 * 10 ^ (s2 - s1) < wpow 39 := scaled_lt hc1 (by omega)
  obtain ⟨k, hk⟩ : ∃ k, k = s2 - s1 := ⟨_, rfl⟩
  have hkI : (s2 : Int) - (s1 : Int) = (k : Int) := by omega
  have hk19 : k ≤ 19 := by omega
  have hkw : IntKind.i64.wrap (k : Int) = (k : Int) := wrap_nat k (by omega)
  rw [← hk] at hbw hnb hsum
  have hlsh := fun g v W (hG : Glob W) (hP : Pow10s W) => lsh_self g v c1 k W hG hP hcw1 hk19
  obtain ⟨b, hb⟩ : ∃ b, b = c1 * 10 ^ k := ⟨_, rfl⟩
  rw [← hb] at hbw hnb hlsh hsum
  clear hb hk hk19
  have t4 : (m1 == m2) = false := by simpa using hsg
  have t5 : cmpN (c2) (b) = 1 := by unfold cmpN; rw [if_neg (by omega), if_pos hsum]
  have t6 : (if c2 ≤ b then b - c2 else c2 - b) = adf b c2 := by unfold adf; split <;> split <;> omega
  have H_hsg := Lib.hid hsg
  clear hsg
  generalize adf b c2 = q at *
  obtain ⟨g, hg⟩ : ∃ g, g = w.heap.size := ⟨_, rfl⟩
  have hsz0 : NG ≤ w.heap.size := hG.size
  have bx := boxes3 w #[.bool m1, .int .i8 s1, .int .u64 c1] #[.bool m2, .int .i8 s2, .int .u64 c2] #[.bool false, .int .i8 0, .int .u64 0] 62 62 62 g hg
  rw [← hg] at hnb
  have H_bx := Lib.hid bx; clear bx
  have H_hsz0 := Lib.hid hsz0; clear hsz0
  have H_hG := Lib.hid hG; clear hG
  have H_hP := Lib.hid hP; clear hP
  have H_hnb := Lib.hid hnb; clear hnb
  have H_hcw1 := Lib.hid hcw1; clear hcw1
  have H_hcw2 := Lib.hid hcw2; clear hcw2
  have H_hs1 := Lib.hid hs1; clear hs1
  have H_hs2 := Lib.hid hs2; clear hs2
  have H_hc1 := Lib.hid hc1; clear hc1
  have H_hc2 := Lib.hid hc2; clear hc2
  have H_hlsh := Lib.hid hlsh; clear hlsh
  have H_hbw := Lib.hid hbw; clear hbw
  have H_hsum := Lib.hid hsum; clear hsum
  have H_t6 := Lib.hid t6; clear t6
  have H_t5 := Lib.hid t5; clear t5
  go_enter_defers Tryz.func100, Tryz.ntmps100
  go_wp2_with (fail)
  generalize hw1 : ((w.alloc _).alloc _).alloc _ = w1
  rw [← hg]
  obtain ⟨r1, r2, r3, fa, _⟩ := H_bx.out w1 hw1
  have sz1 : w1.heap.size = g + 3 := by rw [← hw1, hg]; simp
  have hb1 := getBint_any w1 (by have := H_hsz0.out; omega)
  rw [sz1] at hb1
  have H_r1 := Lib.hid r1; clear r1
  have H_r2 := Lib.hid r2; clear r2
  have H_r3 := Lib.hid r3; clear r3
  have H_fa := Lib.hid fa; clear fa
  have H_hw1 := Lib.hid hw1; clear hw1
  have H_hg := Lib.hid hg; clear hg
  have H_hb1 := Lib.hid hb1; clear hb1
  have H_sz1 := Lib.hid sz1; clear sz1
  go_wp2_with (fail)
  refine H_hb1.out.mono ?_
  rintro e w2 ⟨rfl, z2, f2, sz2⟩
  have sz2' : w2.heap.size = g + 4 := by omega
  have hb2 := getBint_any w2 (by have := H_hsz0.out; have := H_hg.out; omega)
  rw [sz2'] at hb2
  have H_z2 := Lib.hid z2; clear z2
  have H_f2 := Lib.hid f2; clear f2
  have H_sz2 := Lib.hid sz2; clear sz2
  have H_sz2' := Lib.hid sz2'; clear sz2'
  have H_hb2 := Lib.hid hb2; clear hb2
  go_wp2_with (fail)
  refine H_hb2.out.mono ?_
  rintro e w3 ⟨rfl, y3, f3, sz3⟩
  have ff := fresh_trans H_f2.out f3
  have bs : BS w w3 g m1 m2 c1 s1 c2 s2 (.slice none 0 0) (.slice none 0 0) 0 0 := ⟨row_fresh H_r1.out ff, row_fresh H_r2.out ff, row_fresh H_r3.out ff, H_z2.out.fresh f3, y3, fun k h => by simp [Value.ownBlock] at h, fun k h => by simp [Value.ownBlock] at h, fun k h => by simp [Value.ownBlock] at h, fresh_trans H_fa.out ff, H_hg.out, by omega⟩
  clear H_r1 H_r2 H_r3 H_fa H_z2 H_f2 y3 f3 sz3 ff
  have k0 := row_cell bs.r1 0
  have k1 := row_cell bs.r1 1
  have k2 := row_cell bs.r1 2
  have k3 := row_cell bs.r2 0
  have k4 := row_cell bs.r2 1
  have k5 := row_cell bs.r2 2
  simp at k0 k1 k2 k3 k4 k5
  have H_bs := Lib.hid bs; clear bs
  go_wp2_with (fail)
  refine (setFint_any (g + 3) _ 0 c1 _ (by have := H_hc1.out; omega) H_bs.out.z).mono ?_
  rintro e w4 ⟨rfl, hbs⟩
  obtain ⟨x4, bs⟩ := H_bs.out.setP hbs
  clear H_bs hbs
  clear k0 k1 k2 k3 k4 k5
  have k0 := row_cell bs.r1 0
  have k1 := row_cell bs.r1 1
  have k2 := row_cell bs.r1 2
  have k3 := row_cell bs.r2 0
  have k4 := row_cell bs.r2 1
  have k5 := row_cell bs.r2 2
  simp at k0 k1 k2 k3 k4 k5
  have H_bs := Lib.hid bs; clear bs
  go_wp2_with (fail)
  refine (Scale_any m1 s1 c1 _ H_hs1.out).mono ?_
  rintro e w5 ⟨rfl, f9⟩
  have bs := H_bs.out.fresh f9
  clear H_bs f9
  clear k0 k1 k2 k3 k4 k5
  have k0 := row_cell bs.r1 0
  have k1 := row_cell bs.r1 1
  have k2 := row_cell bs.r1 2
  have k3 := row_cell bs.r2 0
  have k4 := row_cell bs.r2 1
  have k5 := row_cell bs.r2 2
  simp at k0 k1 k2 k3 k4 k5
  have H_bs := Lib.hid bs; clear bs
  go_wp2_with (fail)
  refine (setFint_any (g + 4) _ 0 c2 _ (by have := H_hc2.out; omega) H_bs.out.y).mono ?_
  rintro e w6 ⟨rfl, hbs⟩
  obtain ⟨x6, bs⟩ := H_bs.out.setQ hbs
  clear H_bs hbs
  clear k0 k1 k2 k3 k4 k5
  have k0 := row_cell bs.r1 0
  have k1 := row_cell bs.r1 1
  have k2 := row_cell bs.r1 2
  have k3 := row_cell bs.r2 0
  have k4 := row_cell bs.r2 1
  have k5 := row_cell bs.r2 2
  simp at k0 k1 k2 k3 k4 k5
  have H_bs := Lib.hid bs; clear bs
  go_wp2_with (fail)
  refine (IsNeg_any m1 s1 c1 _).mono ?_
  rintro e w7 ⟨rfl, f9⟩
  have bs := H_bs.out.fresh f9
  clear H_bs f9
  clear k0 k1 k2 k3 k4 k5
  have k0 := row_cell bs.r1 0
  have k1 := row_cell bs.r1 1
  have k2 := row_cell bs.r1 2
  have k3 := row_cell bs.r2 0
  have k4 := row_cell bs.r2 1
  have k5 := row_cell bs.r2 2
  simp at k0 k1 k2 k3 k4 k5
  have H_bs := Lib.hid bs; clear bs
  go_wp2_with (fail)
  refine (Scale_any m2 s2 c2 _ H_hs2.out).mono ?_
  rintro e w8 ⟨rfl, f9⟩
  have bs := H_bs.out.fresh f9
  clear H_bs f9
  clear k0 k1 k2 k3 k4 k5
  have k0 := row_cell bs.r1 0
  have k1 := row_cell bs.r1 1
  have k2 := row_cell bs.r1 2
  have k3 := row_cell bs.r2 0
  have k4 := row_cell bs.r2 1
  have k5 := row_cell bs.r2 2
  simp at k0 k1 k2 k3 k4 k5
  have H_bs := Lib.hid bs; clear bs
  go_wp2_with (fail)
  refine (Scale_any m2 s2 c2 _ H_hs2.out).mono ?_
  rintro e w9 ⟨rfl, f9⟩
  have bs := H_bs.out.fresh f9
  clear H_bs f9
  clear k0 k1 k2 k3 k4 k5
  have k0 := row_cell bs.r1 0
  have k1 := row_cell bs.r1 1
  have k2 := row_cell bs.r1 2
  have k3 := row_cell bs.r2 0
  have k4 := row_cell bs.r2 1
  have k5 := row_cell bs.r2 2
  simp at k0 k1 k2 k3 k4 k5
  have H_bs := Lib.hid bs; clear bs
  go_wp2_with (fail)
  refine (Scale_any m2 s2 c2 _ H_hs2.out).mono ?_
  rintro e w10 ⟨rfl, f9⟩
  have bs := H_bs.out.fresh f9
  clear H_bs f9
  clear k0 k1 k2 k3 k4 k5
  have k0 := row_cell bs.r1 0
  have k1 := row_cell bs.r1 1
  have k2 := row_cell bs.r1 2
  have k3 := row_cell bs.r2 0
  have k4 := row_cell bs.r2 1
  have k5 := row_cell bs.r2 2
  simp at k0 k1 k2 k3 k4 k5
  have H_bs := Lib.hid bs; clear bs
  go_wp2_with (fail)
  refine (H_hlsh.out (g + 3) _ _ (H_hG.out.fresh H_bs.out.f) (H_hP.out.fresh H_bs.out.f) H_bs.out.z).mono ?_
  rintro e w11 ⟨rfl, hbs⟩
  obtain ⟨x11, bs⟩ := H_bs.out.setP hbs
  clear H_bs hbs
  clear k0 k1 k2 k3 k4 k5
  have k0 := row_cell bs.r1 0
  have k1 := row_cell bs.r1 1
  have k2 := row_cell bs.r1 2
  have k3 := row_cell bs.r2 0
  have k4 := row_cell bs.r2 1
  have k5 := row_cell bs.r2 2
  simp at k0 k1 k2 k3 k4 k5
  have H_bs := Lib.hid bs; clear bs
  go_wp2_with (fail)
  refine (Scale_any m2 s2 c2 _ H_hs2.out).mono ?_
  rintro e w12 ⟨rfl, f9⟩
  have bs := H_bs.out.fresh f9
  clear H_bs f9
  clear k0 k1 k2 k3 k4 k5
  have k0 := row_cell bs.r1 0
  have k1 := row_cell bs.r1 1
  have k2 := row_cell bs.r1 2
  have k3 := row_cell bs.r2 0
  have k4 := row_cell bs.r2 1
  have k5 := row_cell bs.r2 2
  simp at k0 k1 k2 k3 k4 k5
  have H_bs := Lib.hid bs; clear bs
  go_wp2_with (fail)
  refine (IsNeg_any m2 s2 c2 _).mono ?_
  rintro e w13 ⟨rfl, f9⟩
  have bs := H_bs.out.fresh f9
  clear H_bs f9
  clear k0 k1 k2 k3 k4 k5
  have k0 := row_cell bs.r1 0
  have k1 := row_cell bs.r1 1
  have k2 := row_cell bs.r1 2
  have k3 := row_cell bs.r2 0
  have k4 := row_cell bs.r2 1
  have k5 := row_cell bs.r2 2
  simp at k0 k1 k2 k3 k4 k5
  have H_bs := Lib.hid bs; clear bs
  have hcmp := bcmp_any (g + 4) (g + 3) _ _ c2 b _ H_hcw2.out H_hbw.out (by omega) H_bs.out.y H_bs.out.z
  rw [H_t5.out] at hcmp
  have H_hcmp := Lib.hid hcmp; clear hcmp
  go_wp2_with (fail)
  refine (H_hcmp.out).mono ?_
  rintro e w14 ⟨rfl, qn, rfl⟩
  have bs := H_bs.out.fresh (fresh_drewN _ qn)
  clear H_bs
  generalize w13.drewN qn = w14 at *
  clear k0 k1 k2 k3 k4 k5
  have k0 := row_cell bs.r1 0
  have k1 := row_cell bs.r1 1
  have k2 := row_cell bs.r1 2
  have k3 := row_cell bs.r2 0
  have k4 := row_cell bs.r2 1
  have k5 := row_cell bs.r2 2
  simp at k0 k1 k2 k3 k4 k5
  have H_bs := Lib.hid bs; clear bs
  go_wp2_with (fail)
  refine (IsNeg_any m2 s2 c2 _).mono ?_
  rintro e w15 ⟨rfl, f9⟩
  have bs := H_bs.out.fresh f9
  clear H_bs f9
  clear k0 k1 k2 k3 k4 k5
  have k0 := row_cell bs.r1 0
  have k1 := row_cell bs.r1 1
  have k2 := row_cell bs.r1 2
  have k3 := row_cell bs.r2 0
  have k4 := row_cell bs.r2 1
  have k5 := row_cell bs.r2 2
  simp at k0 k1 k2 k3 k4 k5
  have H_bs := Lib.hid bs; clear bs
  have hsub := subAbs_any (g + 3) (g + 4) b c2 _ _ _ H_hbw.out H_hcw2.out (by omega) H_bs.out.z H_bs.out.y (.inr H_bs.out.od)
  rw [H_t6.out] at hsub
  have H_hsub := Lib.hid hsub; clear hsub
  go_wp2_with (fail)
  refine (H_hsub.out).mono ?_
  rintro e w16 ⟨rfl, hbs⟩
  obtain ⟨x16, bs⟩ := H_bs.out.setP hbs
  clear H_bs hbs
  clear k0 k1 k2 k3 k4 k5
  have k0 := row_cell bs.r1 0
  have k1 := row_cell bs.r1 1
  have k2 := row_cell bs.r1 2
  have k3 := row_cell bs.r2 0
  have k4 := row_cell bs.r2 1
  have k5 := row_cell bs.r2 2
  simp at k0 k1 k2 k3 k4 k5
  have H_bs := Lib.hid bs; clear bs
  go_wp2_with (fail)
  refine (H_hnb.out _ _ H_bs.out.f (fun k h => H_bs.out.ov k h) H_bs.out.z).mono ?_
  rintro e w17 ⟨ev, rfl, hev, k9⟩
  have r3 := row_keep H_bs.out.r3 k9 (fun hh => hh.elim (fun h => by omega) (fun h => by have := H_bs.out.ov _ h; omega))
  have fa : Fresh w w17 := H_bs.out.f.trans k9 (fun _ _ h => h) (fun k hk hh => by
    have := H_bs.out.hg
    rcases hh with rfl | hh
    · omega
    · have := H_bs.out.ov k hh; omega)
  have p0 := row_cell r3 0
  have p1 := row_cell r3 1
  have p2 := row_cell r3 2
  simp at p0 p1 p2
  have z0 : w17.frozen? ⟨g + 1 + 1, 0, none⟩ = false := frozen_of_row _ _ _ _ _ r3
  have z1 : w17.frozen? ⟨g + 1 + 1, 1, none⟩ = false := frozen_of_row _ _ _ _ _ r3
  have z2 : w17.frozen? ⟨g + 1 + 1, 2, none⟩ = false := frozen_of_row _ _ _ _ _ r3
  clear k9 k0 k1 k2 k3 k4 k5
  have H_r3 := Lib.hid r3; clear r3
  have H_fa := Lib.hid fa; clear fa
  have H_hev := Lib.hid hev; clear hev
  go_wp2_with (fail)
  refine leaves_cons (f := 110) (args := #[.pointer (some ⟨g + 4, 0, none⟩)]) (by simp) (by simp [go_sem]) ?_
  refine (putBint_idle _ _).mono ?_
  rintro e u' w'' ⟨rfl, rfl, rfl⟩
  refine leaves_cons (f := 110) (args := #[.pointer (some ⟨g + 3, 0, none⟩)]) (by first | (intro h; cases h; done) | simp [settle]) (by simp [go_sem]) ?_
  refine (putBint_idle _ _).mono ?_
  rintro e u2 wf ⟨rfl, rfl, rfl⟩
  refine ⟨_, results_cell_tmp_row rfl _ _ (g + 1 + 1) 62 #[.bool nz, .int .i8 sz, .int .u64 cz] (0, 0) _ rfl (row_set (row_set (row_set H_r3.out))) Tryz.underlying62 rfl (by kernel_rfl), ?_⟩
  exact ⟨ev, rfl, H_hev.out, Fresh.set3 H_fa.out (by have := H_hg.out; omega)⟩


set_option maxRecDepth 20000 in
set_option maxHeartbeats 4000000 in
theorem addBint_lt_more (m1 m2 : Bool) (c1 s1 c2 s2 : Nat) (w : World) (hG : Glob w) (hP : Pow10s w) (ms : Nat) (hs1 : s1 ≤ 19) (hs2 : s2 ≤ 19) (hc1 : c1 ≤ 9999999999999999999) (hc2 : c2 ≤ 9999999999999999999) (hsc : s1 < s2) (hsg : m1 ≠ m2) (hsum : ¬ c1 * 10 ^ (s2 - s1) < c2) (nz : Bool) (sz cz : Nat) (Pv : Value → Prop)
    (hnb : ∀ V v, Fresh w V → (∀ k, v.ownBlock = some k → w.heap.size + 5 ≤ k) → BI V (w.heap.size + 3) v (adf (c1 * 10 ^ (s2 - s1)) (c2)) → Calls Tryz.prog 120 #[.bool m1, .pointer (some ⟨w.heap.size + 3, 0, none⟩), .int .i64 (s2 : Nat), .int .i64 ms] V (NBOut V (w.heap.size + 3) v nz sz cz Pv)) :
    Calls Tryz.prog 100 #[gd m1 s1 c1, gd m2 s2 c2, .int .i64 ms] w (DOut w nz sz cz Pv) := by
  have hcw1 : c1 < wpow 39 := wpow_big (by omega)
  have hcw2 : c2 < wpow 39 := wpow_big (by omega)
  have t1 : decide ((s2 : Int) < (s1 : Int)) = false := by simp; omega
  have t1n : ¬ s2 < s1 := by omega
  have t2 : decide ((s1 : Int) < (s2 : Int)) = true := by simp; omega
  have hbw : c1 * 10 ^ (s2 - s1) < wpow 39 := scaled_lt hc1 (by omega)
  obtain ⟨k, hk⟩ : ∃ k, k = s2 - s1 := ⟨_, rfl⟩
  have hkI : (s2 : Int) - (s1 : Int) = (k : Int) := by omega
  have hk19 : k ≤ 19 := by omega
  have hkw : IntKind.i64.wrap (k : Int) = (k : Int) := wrap_nat k (by omega)
  rw [← hk] at hbw hnb hsum
  have hlsh := fun g v W (hG : Glob W) (hP : Pow10s W) => lsh_self g v c1 k W hG hP hcw1 hk19
  obtain ⟨b, hb⟩ : ∃ b, b = c1 * 10 ^ k := ⟨_, rfl⟩
  rw [← hb] at hbw hnb hlsh hsum
  clear hb hk hk19
  have t4 : (m1 == m2) = false := by simpa using hsg
  have t5 : decide (0 < cmpN c2 b) = false := cmpN_not hsum
  have t6 : (if c2 ≤ b then b - c2 else c2 - b) = adf b c2 := by unfold adf; split <;> split <;> omega
  obtain ⟨cc, hcc⟩ : ∃ cc, cc = cmpN c2 b := ⟨_, rfl⟩
  rw [← hcc] at t5
  have H_hsg := Lib.hid hsg
  clear hsg
  generalize adf b c2 = q at *
  obtain ⟨g, hg⟩ : ∃ g, g = w.heap.size := ⟨_, rfl⟩
  have hsz0 : NG ≤ w.heap.size := hG.size
  have bx := boxes3 w #[.bool m1, .int .i8 s1, .int .u64 c1] #[.bool m2, .int .i8 s2, .int .u64 c2] #[.bool false, .int .i8 0, .int .u64 0] 62 62 62 g hg
  rw [← hg] at hnb
  have H_bx := Lib.hid bx; clear bx
  have H_hsz0 := Lib.hid hsz0; clear hsz0
  have H_hG := Lib.hid hG; clear hG
  have H_hP := Lib.hid hP; clear hP
  have H_hnb := Lib.hid hnb; clear hnb
  have H_hcw1 := Lib.hid hcw1; clear hcw1
  have H_hcw2 := Lib.hid hcw2; clear hcw2
  have H_hs1 := Lib.hid hs1; clear hs1
  have H_hs2 := Lib.hid hs2; clear hs2
  have H_hc1 := Lib.hid hc1; clear hc1
  have H_hc2 := Lib.hid hc2; clear hc2
  have H_hlsh := Lib.hid hlsh; clear hlsh
  have H_hbw := Lib.hid hbw; clear hbw
  have H_hsum := Lib.hid hsum; clear hsum
  have H_t6 := Lib.hid t6; clear t6
  have H_hcc := Lib.hid hcc; clear hcc
  go_enter_defers Tryz.func100, Tryz.ntmps100
  go_wp2_with (fail)
  generalize hw1 : ((w.alloc _).alloc _).alloc _ = w1
  rw [← hg]
  obtain ⟨r1, r2, r3, fa, _⟩ := H_bx.out w1 hw1
  have sz1 : w1.heap.size = g + 3 := by rw [← hw1, hg]; simp
  have hb1 := getBint_any w1 (by have := H_hsz0.out; omega)
  rw [sz1] at hb1
  have H_r1 := Lib.hid r1; clear r1
  have H_r2 := Lib.hid r2; clear r2
  have H_r3 := Lib.hid r3; clear r3
  have H_fa := Lib.hid fa; clear fa
  have H_hw1 := Lib.hid hw1; clear hw1
  have H_hg := Lib.hid hg; clear hg
  have H_hb1 := Lib.hid hb1; clear hb1
  have H_sz1 := Lib.hid sz1; clear sz1
  go_wp2_with (fail)
  refine H_hb1.out.mono ?_
  rintro e w2 ⟨rfl, z2, f2, sz2⟩
  have sz2' : w2.heap.size = g + 4 := by omega
  have hb2 := getBint_any w2 (by have := H_hsz0.out; have := H_hg.out; omega)
  rw [sz2'] at hb2
  have H_z2 := Lib.hid z2; clear z2
  have H_f2 := Lib.hid f2; clear f2
  have H_sz2 := Lib.hid sz2; clear sz2
  have H_sz2' := Lib.hid sz2'; clear sz2'
  have H_hb2 := Lib.hid hb2; clear hb2
  go_wp2_with (fail)
  refine H_hb2.out.mono ?_
  rintro e w3 ⟨rfl, y3, f3, sz3⟩
  have ff := fresh_trans H_f2.out f3
  have bs : BS w w3 g m1 m2 c1 s1 c2 s2 (.slice none 0 0) (.slice none 0 0) 0 0 := ⟨row_fresh H_r1.out ff, row_fresh H_r2.out ff, row_fresh H_r3.out ff, H_z2.out.fresh f3, y3, fun k h => by simp [Value.ownBlock] at h, fun k h => by simp [Value.ownBlock] at h, fun k h => by simp [Value.ownBlock] at h, fresh_trans H_fa.out ff, H_hg.out, by omega⟩
  clear H_r1 H_r2 H_r3 H_fa H_z2 H_f2 y3 f3 sz3 ff
  have k0 := row_cell bs.r1 0
  have k1 := row_cell bs.r1 1
  have k2 := row_cell bs.r1 2
  have k3 := row_cell bs.r2 0
  have k4 := row_cell bs.r2 1
  have k5 := row_cell bs.r2 2
  simp at k0 k1 k2 k3 k4 k5
  have H_bs := Lib.hid bs; clear bs
  go_wp2_with (fail)
  refine (setFint_any (g + 3) _ 0 c1 _ (by have := H_hc1.out; omega) H_bs.out.z).mono ?_
  rintro e w4 ⟨rfl, hbs⟩
  obtain ⟨x4, bs⟩ := H_bs.out.setP hbs
  clear H_bs hbs
  clear k0 k1 k2 k3 k4 k5
  have k0 := row_cell bs.r1 0
  have k1 := row_cell bs.r1 1
  have k2 := row_cell bs.r1 2
  have k3 := row_cell bs.r2 0
  have k4 := row_cell bs.r2 1
  have k5 := row_cell bs.r2 2
  simp at k0 k1 k2 k3 k4 k5
  have H_bs := Lib.hid bs; clear bs
  go_wp2_with (fail)
  refine (Scale_any m1 s1 c1 _ H_hs1.out).mono ?_
  rintro e w5 ⟨rfl, f9⟩
  have bs := H_bs.out.fresh f9
  clear H_bs f9
  clear k0 k1 k2 k3 k4 k5
  have k0 := row_cell bs.r1 0
  have k1 := row_cell bs.r1 1
  have k2 := row_cell bs.r1 2
  have k3 := row_cell bs.r2 0
  have k4 := row_cell bs.r2 1
  have k5 := row_cell bs.r2 2
  simp at k0 k1 k2 k3 k4 k5
  have H_bs := Lib.hid bs; clear bs
  go_wp2_with (fail)
  refine (setFint_any (g + 4) _ 0 c2 _ (by have := H_hc2.out; omega) H_bs.out.y).mono ?_
  rintro e w6 ⟨rfl, hbs⟩
  obtain ⟨x6, bs⟩ := H_bs.out.setQ hbs
  clear H_bs hbs
  clear k0 k1 k2 k3 k4 k5
  have k0 := row_cell bs.r1 0
  have k1 := row_cell bs.r1 1
  have k2 := row_cell bs.r1 2
  have k3 := row_cell bs.r2 0
  have k4 := row_cell bs.r2 1
  have k5 := row_cell bs.r2 2
  simp at k0 k1 k2 k3 k4 k5
  have H_bs := Lib.hid bs; clear bs
  go_wp2_with (fail)
  refine (IsNeg_any m1 s1 c1 _).mono ?_
  rintro e w7 ⟨rfl, f9⟩
  have bs := H_bs.out.fresh f9
  clear H_bs f9
  clear k0 k1 k2 k3 k4 k5
  have k0 := row_cell bs.r1 0
  have k1 := row_cell bs.r1 1
  have k2 := row_cell bs.r1 2
  have k3 := row_cell bs.r2 0
  have k4 := row_cell bs.r2 1
  have k5 := row_cell bs.r2 2
  simp at k0 k1 k2 k3 k4 k5
  have H_bs := Lib.hid bs; clear bs
  go_wp2_with (fail)
  refine (Scale_any m2 s2 c2 _ H_hs2.out).mono ?_
  rintro e w8 ⟨rfl, f9⟩
  have bs := H_bs.out.fresh f9
  clear H_bs f9
  clear k0 k1 k2 k3 k4 k5
  have k0 := row_cell bs.r1 0
  have k1 := row_cell bs.r1 1
  have k2 := row_cell bs.r1 2
  have k3 := row_cell bs.r2 0
  have k4 := row_cell bs.r2 1
  have k5 := row_cell bs.r2 2
  simp at k0 k1 k2 k3 k4 k5
  have H_bs := Lib.hid bs; clear bs
  go_wp2_with (fail)
  refine (Scale_any m2 s2 c2 _ H_hs2.out).mono ?_
  rintro e w9 ⟨rfl, f9⟩
  have bs := H_bs.out.fresh f9
  clear H_bs f9
  clear k0 k1 k2 k3 k4 k5
  have k0 := row_cell bs.r1 0
  have k1 := row_cell bs.r1 1
  have k2 := row_cell bs.r1 2
  have k3 := row_cell bs.r2 0
  have k4 := row_cell bs.r2 1
  have k5 := row_cell bs.r2 2
  simp at k0 k1 k2 k3 k4 k5
  have H_bs := Lib.hid bs; clear bs
  go_wp2_with (fail)
  refine (Scale_any m2 s2 c2 _ H_hs2.out).mono ?_
  rintro e w10 ⟨rfl, f9⟩
  have bs := H_bs.out.fresh f9
  clear H_bs f9
  clear k0 k1 k2 k3 k4 k5
  have k0 := row_cell bs.r1 0
  have k1 := row_cell bs.r1 1
  have k2 := row_cell bs.r1 2
  have k3 := row_cell bs.r2 0
  have k4 := row_cell bs.r2 1
  have k5 := row_cell bs.r2 2
  simp at k0 k1 k2 k3 k4 k5
  have H_bs := Lib.hid bs; clear bs
  go_wp2_with (fail)
  refine (H_hlsh.out (g + 3) _ _ (H_hG.out.fresh H_bs.out.f) (H_hP.out.fresh H_bs.out.f) H_bs.out.z).mono ?_
  rintro e w11 ⟨rfl, hbs⟩
  obtain ⟨x11, bs⟩ := H_bs.out.setP hbs
  clear H_bs hbs
  clear k0 k1 k2 k3 k4 k5
  have k0 := row_cell bs.r1 0
  have k1 := row_cell bs.r1 1
  have k2 := row_cell bs.r1 2
  have k3 := row_cell bs.r2 0
  have k4 := row_cell bs.r2 1
  have k5 := row_cell bs.r2 2
  simp at k0 k1 k2 k3 k4 k5
  have H_bs := Lib.hid bs; clear bs
  go_wp2_with (fail)
  refine (Scale_any m2 s2 c2 _ H_hs2.out).mono ?_
  rintro e w12 ⟨rfl, f9⟩
  have bs := H_bs.out.fresh f9
  clear H_bs f9
  clear k0 k1 k2 k3 k4 k5
  have k0 := row_cell bs.r1 0
  have k1 := row_cell bs.r1 1
  have k2 := row_cell bs.r1 2
  have k3 := row_cell bs.r2 0
  have k4 := row_cell bs.r2 1
  have k5 := row_cell bs.r2 2
  simp at k0 k1 k2 k3 k4 k5
  have H_bs := Lib.hid bs; clear bs
  go_wp2_with (fail)
  refine (IsNeg_any m2 s2 c2 _).mono ?_
  rintro e w13 ⟨rfl, f9⟩
  have bs := H_bs.out.fresh f9
  clear H_bs f9
  clear k0 k1 k2 k3 k4 k5
  have k0 := row_cell bs.r1 0
  have k1 := row_cell bs.r1 1
  have k2 := row_cell bs.r1 2
  have k3 := row_cell bs.r2 0
  have k4 := row_cell bs.r2 1
  have k5 := row_cell bs.r2 2
  simp at k0 k1 k2 k3 k4 k5
  have H_bs := Lib.hid bs; clear bs
  have hcmp := bcmp_any (g + 4) (g + 3) _ _ c2 b _ H_hcw2.out H_hbw.out (by omega) H_bs.out.y H_bs.out.z
  rw [← H_hcc.out] at hcmp
  have H_hcmp := Lib.hid hcmp; clear hcmp
  go_wp2_with (fail)
  refine (H_hcmp.out).mono ?_
  rintro e w14 ⟨rfl, qn, rfl⟩
  have bs := H_bs.out.fresh (fresh_drewN _ qn)
  clear H_bs
  generalize w13.drewN qn = w14 at *
  clear k0 k1 k2 k3 k4 k5
  have k0 := row_cell bs.r1 0
  have k1 := row_cell bs.r1 1
  have k2 := row_cell bs.r1 2
  have k3 := row_cell bs.r2 0
  have k4 := row_cell bs.r2 1
  have k5 := row_cell bs.r2 2
  simp at k0 k1 k2 k3 k4 k5
  have H_bs := Lib.hid bs; clear bs
  have hsub := subAbs_any (g + 3) (g + 4) b c2 _ _ _ H_hbw.out H_hcw2.out (by omega) H_bs.out.z H_bs.out.y (.inr H_bs.out.od)
  rw [H_t6.out] at hsub
  have H_hsub := Lib.hid hsub; clear hsub
  go_wp2_with (fail)
  refine (H_hsub.out).mono ?_
  rintro e w15 ⟨rfl, hbs⟩
  obtain ⟨x15, bs⟩ := H_bs.out.setP hbs
  clear H_bs hbs
  clear k0 k1 k2 k3 k4 k5
  have k0 := row_cell bs.r1 0
  have k1 := row_cell bs.r1 1
  have k2 := row_cell bs.r1 2
  have k3 := row_cell bs.r2 0
  have k4 := row_cell bs.r2 1
  have k5 := row_cell bs.r2 2
  simp at k0 k1 k2 k3 k4 k5
  have H_bs := Lib.hid bs; clear bs
  go_wp2_with (fail)
  refine (H_hnb.out _ _ H_bs.out.f (fun k h => H_bs.out.ov k h) H_bs.out.z).mono ?_
  rintro e w16 ⟨ev, rfl, hev, k9⟩
  have r3 := row_keep H_bs.out.r3 k9 (fun hh => hh.elim (fun h => by omega) (fun h => by have := H_bs.out.ov _ h; omega))
  have fa : Fresh w w16 := H_bs.out.f.trans k9 (fun _ _ h => h) (fun k hk hh => by
    have := H_bs.out.hg
    rcases hh with rfl | hh
    · omega
    · have := H_bs.out.ov k hh; omega)
  have p0 := row_cell r3 0
  have p1 := row_cell r3 1
  have p2 := row_cell r3 2
  simp at p0 p1 p2
  have z0 : w16.frozen? ⟨g + 1 + 1, 0, none⟩ = false := frozen_of_row _ _ _ _ _ r3
  have z1 : w16.frozen? ⟨g + 1 + 1, 1, none⟩ = false := frozen_of_row _ _ _ _ _ r3
  have z2 : w16.frozen? ⟨g + 1 + 1, 2, none⟩ = false := frozen_of_row _ _ _ _ _ r3
  clear k9 k0 k1 k2 k3 k4 k5
  have H_r3 := Lib.hid r3; clear r3
  have H_fa := Lib.hid fa; clear fa
  have H_hev := Lib.hid hev; clear hev
  go_wp2_with (fail)
  refine leaves_cons (f := 110) (args := #[.pointer (some ⟨g + 4, 0, none⟩)]) (by simp) (by simp [go_sem]) ?_
  refine (putBint_idle _ _).mono ?_
  rintro e u' w'' ⟨rfl, rfl, rfl⟩
  refine leaves_cons (f := 110) (args := #[.pointer (some ⟨g + 3, 0, none⟩)]) (by first | (intro h; cases h; done) | simp [settle]) (by simp [go_sem]) ?_
  refine (putBint_idle _ _).mono ?_
  rintro e u2 wf ⟨rfl, rfl, rfl⟩
  refine ⟨_, results_cell_tmp_row rfl _ _ (g + 1 + 1) 62 #[.bool nz, .int .i8 sz, .int .u64 cz] (0, 0) _ rfl (row_set (row_set (row_set H_r3.out))) Tryz.underlying62 rfl (by kernel_rfl), ?_⟩
  exact ⟨ev, rfl, H_hev.out, Fresh.set3 H_fa.out (by have := H_hg.out; omega)⟩


end Go.Proofs.YtibaeafmgncjdaaGreatDoor

/- The sums and products by whole numbers of any length: what they make is a result as it has to be, or the fault that there is no room. -/
namespace Go.Proofs.YtibaeafmgncjdaaGreatDoor
open Go.RowKit

theorem bint_core (f : FuncId) (args : Array Value) (neg : Bool) (C S ms : Nat) (z : Int) (d : Nat) (hd : 0 < d) (hC : C < 10 ^ 38) (hS : S ≤ 38) (hms : ms ≤ 19) (hfr : z.natAbs * 10 ^ S = C * d) (h1 : z < 0 → neg = true) (h2 : 0 < z → neg = false)
    (go : ∀ w nz sz cz Pv, Glob w → Pow10s w → (∀ V v, Fresh w V → (∀ k, v.ownBlock = some k → w.heap.size + 5 ≤ k) → BI V (w.heap.size + 3) v C →
      Calls Tryz.prog 120 #[.bool neg, .pointer (some ⟨w.heap.size + 3, 0, none⟩), .int .i64 (S : Nat), .int .i64 ms] V (NBOut V (w.heap.size + 3) v nz sz cz Pv)) → Calls Tryz.prog f args w (DOut w nz sz cz Pv)) :
    (¬ okN z.natAbs d ms ∧ ∀ w, Glob w → Pow10s w → Calls Tryz.prog f args w (ClampErr w)) ∨
    ∃ nz sz cz, (∀ w, Glob w → Pow10s w → Calls Tryz.prog f args w (VRet w (.tuple #[gd nz sz cz, .nilIface]))) ∧ ResOK z d ms nz sz cz := by
  obtain ⟨p, hp38, hp⟩ := isPrec_ex 38 C hC
  have hnb : ∀ w, Glob w → Pow10s w → ∀ V v, Fresh w V → (∀ k, v.ownBlock = some k → w.heap.size + 5 ≤ k) → BI V (w.heap.size + 3) v C →
      Calls Tryz.prog 120 #[.bool neg, .pointer (some ⟨w.heap.size + 3, 0, none⟩), .int .i64 (S : Nat), .int .i64 ms] V (NBRet V (w.heap.size + 3) v neg (nbOut C p S ms)) :=
    fun w hG hP V v hf hv hz => newFromBint_any w V neg (w.heap.size + 3) C p S ms v hG hP hf (by omega) (fun k h => by have := hv k h; omega) hp hp38 hS hms hz
  rcases ho : nbOut C p S ms with _ | ⟨c, s⟩
  · rw [ho] at hnb
    exact .inl ⟨nb_none hfr hd hp hms ho, fun w hG hP => (go w false 0 0 AnErr hG hP (hnb w hG hP)).mono (fun _ _ h => h.err)⟩
  · rw [ho] at hnb
    obtain ⟨g1, g2⟩ := nb_some hfr hd hp hms ho
    exact .inr ⟨_, s, c, fun w hG hP => (go w (neg && decide (0 < c)) s c NoErr hG hP (hnb w hG hP)).mono (fun _ _ h => h.ok), res_ok hd g1 g2 h1 h2⟩

theorem sum_lt {c1 c2 s1 s2 : Nat} (h1 : c1 ≤ 9999999999999999999) (h2 : c2 ≤ 9999999999999999999) (hs1 : s1 ≤ 19) (hs2 : s2 ≤ 19) : c1 * 10 ^ (s2 - s1) + c2 * 10 ^ (s1 - s2) < 10 ^ 38 := by
  have e38 : (10 : Nat) ^ 38 = 100000000000000000000000000000000000000 := rfl
  have hk : ∀ k, k ≤ 19 → 10 ^ k ≤ 10000000000000000000 := fun k hk => Nat.le_trans (Nat.pow_le_pow_right (by omega) hk) (by decide : 10 ^ 19 ≤ 10000000000000000000)
  rw [e38]
  rcases Nat.le_total s1 s2 with h | h
  · rw [show s1 - s2 = 0 by omega, Nat.pow_zero, Nat.mul_one]
    have := Nat.mul_le_mul h1 (hk (s2 - s1) (by omega))
    omega
  · rw [show s2 - s1 = 0 by omega, Nat.pow_zero, Nat.mul_one]
    have := Nat.mul_le_mul h2 (hk (s1 - s2) (by omega))
    omega

theorem sumC_le (m1 m2 : Bool) (a e : Nat) : sumC m1 m2 a e ≤ a + e := by
  unfold sumC adf
  split
  · omega
  · split <;> omega

theorem mul_lt38 {c1 c2 : Nat} (h1 : c1 ≤ 9999999999999999999) (h2 : c2 ≤ 9999999999999999999) : c1 * c2 < 10 ^ 38 := by
  have := Nat.mul_le_mul h1 h2
  rw [show (10 : Nat) ^ 38 = 100000000000000000000000000000000000000 from rfl]
  omega

theorem mulBint_law (m1 m2 : Bool) (c1 s1 c2 s2 ms : Nat) (hms : ms ≤ 19) (hs1 : s1 ≤ 19) (hs2 : s2 ≤ 19) (hc1 : c1 ≤ 9999999999999999999) (hc2 : c2 ≤ 9999999999999999999) :
    (¬ okN (zfix m1 c1 * zfix m2 c2).natAbs (10 ^ s1 * 10 ^ s2) ms ∧ ∀ w, Glob w → Pow10s w → Calls Tryz.prog 104 #[gd m1 s1 c1, gd m2 s2 c2, .int .i64 ms] w (ClampErr w)) ∨
    ∃ nz sz cz, (∀ w, Glob w → Pow10s w → Calls Tryz.prog 104 #[gd m1 s1 c1, gd m2 s2 c2, .int .i64 ms] w (VRet w (.tuple #[gd nz sz cz, .nilIface]))) ∧ ResOK (zfix m1 c1 * zfix m2 c2) (10 ^ s1 * 10 ^ s2) ms nz sz cz := by
  have hd : 0 < 10 ^ s1 * 10 ^ s2 := Nat.mul_pos (Nat.pow_pos (by omega)) (Nat.pow_pos (by omega))
  have hsn := mul_sign m1 m2 c1 c2
  exact bint_core _ _ (m1 != m2) (c1 * c2) (s1 + s2) ms _ _ hd (mul_lt38 hc1 hc2) (by omega) hms (mul_frac m1 m2 c1 s1 c2 s2) hsn.1 hsn.2
    (fun w nz sz cz Pv hG hP hnb => mulBint_go m1 m2 c1 s1 c2 s2 w hG hP ms hs1 hs2 hc1 hc2 nz sz cz Pv hnb)

theorem addBint_law (m1 m2 : Bool) (c1 s1 c2 s2 ms : Nat) (hms : ms ≤ 19) (hs1 : s1 ≤ 19) (hs2 : s2 ≤ 19) (hc1 : c1 ≤ 9999999999999999999) (hc2 : c2 ≤ 9999999999999999999) :
    (¬ okN (zfix m1 c1 * ((10 ^ s2 : Nat) : Int) + zfix m2 c2 * ((10 ^ s1 : Nat) : Int)).natAbs (10 ^ s1 * 10 ^ s2) ms ∧ ∀ w, Glob w → Pow10s w → Calls Tryz.prog 100 #[gd m1 s1 c1, gd m2 s2 c2, .int .i64 ms] w (ClampErr w)) ∨
    ∃ nz sz cz, (∀ w, Glob w → Pow10s w → Calls Tryz.prog 100 #[gd m1 s1 c1, gd m2 s2 c2, .int .i64 ms] w (VRet w (.tuple #[gd nz sz cz, .nilIface]))) ∧ ResOK (zfix m1 c1 * ((10 ^ s2 : Nat) : Int) + zfix m2 c2 * ((10 ^ s1 : Nat) : Int)) (10 ^ s1 * 10 ^ s2) ms nz sz cz := by
  have hd : 0 < 10 ^ s1 * 10 ^ s2 := Nat.mul_pos (Nat.pow_pos (by omega)) (Nat.pow_pos (by omega))
  have hsn := add_sign m1 m2 c1 s1 c2 s2
  have hC := Nat.lt_of_le_of_lt (sumC_le m1 m2 (c1 * 10 ^ (s2 - s1)) (c2 * 10 ^ (s1 - s2))) (sum_lt hc1 hc2 hs1 hs2)
  have hfr := add_frac m1 m2 c1 s1 c2 s2
  refine bint_core _ _ (sumS m1 m2 (c1 * 10 ^ (s2 - s1)) (c2 * 10 ^ (s1 - s2))) (sumC m1 m2 (c1 * 10 ^ (s2 - s1)) (c2 * 10 ^ (s1 - s2))) (max s1 s2) ms _ _ hd hC (by omega) hms hfr hsn.1 hsn.2 ?_
  clear hC hfr hsn
  intro w nz sz cz Pv hG hP hnb
  have z0 : ∀ x y : Nat, x ≤ y → 10 ^ (x - y) = 1 := fun x y h => by rw [show x - y = 0 by omega, Nat.pow_zero]
  rcases Nat.lt_trichotomy s1 s2 with h | h | h
  · rw [z0 s1 s2 (by omega), Nat.mul_one, show max s1 s2 = s2 by omega] at hnb
    by_cases hm : m1 = m2
    · subst hm
      rw [sumS_same, sumC_same] at hnb
      exact addBint_lt_same m1 m1 c1 s1 c2 s2 w hG hP ms hs1 hs2 hc1 hc2 h rfl nz sz cz Pv hnb
    · by_cases hl : (c1 * 10 ^ (s2 - s1)) < c2
      · rw [sumS_less hm hl, sumC_diff hm] at hnb
        exact addBint_lt_less m1 m2 c1 s1 c2 s2 w hG hP ms hs1 hs2 hc1 hc2 h hm hl nz sz cz Pv hnb
      · rw [sumS_more hm hl, sumC_diff hm] at hnb
        exact addBint_lt_more m1 m2 c1 s1 c2 s2 w hG hP ms hs1 hs2 hc1 hc2 h hm hl nz sz cz Pv hnb
  · rw [z0 s1 s2 (by omega), z0 s2 s1 (by omega), Nat.mul_one, Nat.mul_one, show max s1 s2 = s1 by omega] at hnb
    by_cases hm : m1 = m2
    · subst hm
      rw [sumS_same, sumC_same] at hnb
      exact addBint_eq_same m1 m1 c1 s1 c2 s2 w hG hP ms hs1 hs2 hc1 hc2 h rfl nz sz cz Pv hnb
    · by_cases hl : c1 < c2
      · rw [sumS_less hm hl, sumC_diff hm] at hnb
        exact addBint_eq_less m1 m2 c1 s1 c2 s2 w hG hP ms hs1 hs2 hc1 hc2 h hm hl nz sz cz Pv hnb
      · rw [sumS_more hm hl, sumC_diff hm] at hnb
        exact addBint_eq_more m1 m2 c1 s1 c2 s2 w hG hP ms hs1 hs2 hc1 hc2 h hm hl nz sz cz Pv hnb
  · rw [z0 s2 s1 (by omega), Nat.mul_one, show max s1 s2 = s1 by omega] at hnb
    by_cases hm : m1 = m2
    · subst hm
      rw [sumS_same, sumC_same] at hnb
      exact addBint_gt_same m1 m1 c1 s1 c2 s2 w hG hP ms hs1 hs2 hc1 hc2 h rfl nz sz cz Pv hnb
    · by_cases hl : c1 < (c2 * 10 ^ (s1 - s2))
      · rw [sumS_less hm hl, sumC_diff hm] at hnb
        exact addBint_gt_less m1 m2 c1 s1 c2 s2 w hG hP ms hs1 hs2 hc1 hc2 h hm hl nz sz cz Pv hnb
      · rw [sumS_more hm hl, sumC_diff hm] at hnb
        exact addBint_gt_more m1 m2 c1 s1 c2 s2 w hG hP ms hs1 hs2 hc1 hc2 h hm hl nz sz cz Pv hnb

end Go.Proofs.YtibaeafmgncjdaaGreatDoor

/- govalues' doors ZzAddBig, ZzMulBig. -/
namespace Go.Proofs.YtibaeafmgncjdaaGreatDoor
open Go.RowKit

set_option maxRecDepth 20000 in
set_option maxHeartbeats 2000000 in
theorem ZzAddBig_go (m1 m2 nz : Bool) (c1 s1 c2 s2 ms : Nat) (w : World) (sz cz : Nat) (Pv : Value → Prop) (hnf : ∀ W, Fresh w W → Calls Tryz.prog 100 #[gd m1 s1 c1, gd m2 s2 c2, .int .i64 ms] W (DOut W nz sz cz Pv)) :
    Calls Tryz.prog 64 #[gd m1 s1 c1, gd m2 s2 c2, .int .i64 ms] w (DOut w nz sz cz Pv) := by
  obtain ⟨g, hg⟩ : ∃ g, g = w.heap.size := ⟨_, rfl⟩
  have bx := boxes3 w #[.bool m1, .int .i8 s1, .int .u64 c1] #[.bool m2, .int .i8 s2, .int .u64 c2] #[.bool false, .int .i8 0, .int .u64 0] 62 62 62 g hg
  have H_bx := Lib.hid bx; clear bx
  have H_hnf := Lib.hid hnf; clear hnf
  go_enter Tryz.func64, Tryz.ntmps64
  go_wp2_with (fail)
  generalize hw1 : ((w.alloc _).alloc _).alloc _ = w1
  rw [← hg]
  obtain ⟨r1, r2, r3, fa, _⟩ := H_bx.out w1 hw1
  have k0 := row_cell r1 0
  have k1 := row_cell r1 1
  have k2 := row_cell r1 2
  have k3 := row_cell r2 0
  have k4 := row_cell r2 1
  have k5 := row_cell r2 2
  simp at k0 k1 k2 k3 k4 k5
  have H_r1 := Lib.hid r1; clear r1
  have H_r2 := Lib.hid r2; clear r2
  have H_r3 := Lib.hid r3; clear r3
  have H_fa := Lib.hid fa; clear fa
  have H_hw1 := Lib.hid hw1; clear hw1
  have H_hg := Lib.hid hg; clear hg
  go_wp2_with (fail)
  refine (H_hnf.out _ H_fa.out).mono ?_
  rintro e w2 ⟨ev, rfl, hev, f9⟩
  have r3 := row_fresh H_r3.out f9
  have p0 := row_cell r3 0
  have p1 := row_cell r3 1
  have p2 := row_cell r3 2
  simp at p0 p1 p2
  have z0 : w2.frozen? ⟨g + 1 + 1, 0, none⟩ = false := frozen_of_row _ _ _ _ _ r3
  have z1 : w2.frozen? ⟨g + 1 + 1, 1, none⟩ = false := frozen_of_row _ _ _ _ _ r3
  have z2 : w2.frozen? ⟨g + 1 + 1, 2, none⟩ = false := frozen_of_row _ _ _ _ _ r3
  have fa := fresh_trans H_fa.out f9
  clear H_r3 H_fa f9 k0 k1 k2 k3 k4 k5
  have H_r3 := Lib.hid r3; clear r3
  have H_fa := Lib.hid fa; clear fa
  have H_hev := Lib.hid hev; clear hev
  go_wp2_with (fail)
  refine bodyPost_ret (results_cell_tmp_row rfl _ _ (g + 1 + 1) 62 #[.bool nz, .int .i8 sz, .int .u64 cz] (0, 0) _ rfl (row_set (row_set (row_set H_r3.out))) Tryz.underlying62 rfl (by kernel_rfl)) rfl ?_
  exact ⟨ev, rfl, H_hev.out, Fresh.set3 H_fa.out (by have := H_hg.out; omega)⟩

set_option maxRecDepth 20000 in
set_option maxHeartbeats 2000000 in
theorem ZzMulBig_go (m1 m2 nz : Bool) (c1 s1 c2 s2 ms : Nat) (w : World) (sz cz : Nat) (Pv : Value → Prop) (hnf : ∀ W, Fresh w W → Calls Tryz.prog 104 #[gd m1 s1 c1, gd m2 s2 c2, .int .i64 ms] W (DOut W nz sz cz Pv)) :
    Calls Tryz.prog 71 #[gd m1 s1 c1, gd m2 s2 c2, .int .i64 ms] w (DOut w nz sz cz Pv) := by
  obtain ⟨g, hg⟩ : ∃ g, g = w.heap.size := ⟨_, rfl⟩
  have bx := boxes3 w #[.bool m1, .int .i8 s1, .int .u64 c1] #[.bool m2, .int .i8 s2, .int .u64 c2] #[.bool false, .int .i8 0, .int .u64 0] 62 62 62 g hg
  have H_bx := Lib.hid bx; clear bx
  have H_hnf := Lib.hid hnf; clear hnf
  go_enter Tryz.func71, Tryz.ntmps71
  go_wp2_with (fail)
  generalize hw1 : ((w.alloc _).alloc _).alloc _ = w1
  rw [← hg]
  obtain ⟨r1, r2, r3, fa, _⟩ := H_bx.out w1 hw1
  have k0 := row_cell r1 0
  have k1 := row_cell r1 1
  have k2 := row_cell r1 2
  have k3 := row_cell r2 0
  have k4 := row_cell r2 1
  have k5 := row_cell r2 2
  simp at k0 k1 k2 k3 k4 k5
  have H_r1 := Lib.hid r1; clear r1
  have H_r2 := Lib.hid r2; clear r2
  have H_r3 := Lib.hid r3; clear r3
  have H_fa := Lib.hid fa; clear fa
  have H_hw1 := Lib.hid hw1; clear hw1
  have H_hg := Lib.hid hg; clear hg
  go_wp2_with (fail)
  refine (H_hnf.out _ H_fa.out).mono ?_
  rintro e w2 ⟨ev, rfl, hev, f9⟩
  have r3 := row_fresh H_r3.out f9
  have p0 := row_cell r3 0
  have p1 := row_cell r3 1
  have p2 := row_cell r3 2
  simp at p0 p1 p2
  have z0 : w2.frozen? ⟨g + 1 + 1, 0, none⟩ = false := frozen_of_row _ _ _ _ _ r3
  have z1 : w2.frozen? ⟨g + 1 + 1, 1, none⟩ = false := frozen_of_row _ _ _ _ _ r3
  have z2 : w2.frozen? ⟨g + 1 + 1, 2, none⟩ = false := frozen_of_row _ _ _ _ _ r3
  have fa := fresh_trans H_fa.out f9
  clear H_r3 H_fa f9 k0 k1 k2 k3 k4 k5
  have H_r3 := Lib.hid r3; clear r3
  have H_fa := Lib.hid fa; clear fa
  have H_hev := Lib.hid hev; clear hev
  go_wp2_with (fail)
  refine bodyPost_ret (results_cell_tmp_row rfl _ _ (g + 1 + 1) 62 #[.bool nz, .int .i8 sz, .int .u64 cz] (0, 0) _ rfl (row_set (row_set (row_set H_r3.out))) Tryz.underlying62 rfl (by kernel_rfl)) rfl ?_
  exact ⟨ev, rfl, H_hev.out, Fresh.set3 H_fa.out (by have := H_hg.out; omega)⟩

end Go.Proofs.YtibaeafmgncjdaaGreatDoor
