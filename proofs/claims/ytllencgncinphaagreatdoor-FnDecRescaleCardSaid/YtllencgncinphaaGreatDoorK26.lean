/- Int.Set of signed integers; the thin package: made, dec. -/
import Derived.Laws.FloatArith
import Derived.Laws.Externs
import Derived.Laws.Cover2
import Derived.Test.YtllencgncinphaaGreatDoorK1
import Derived.Test.YtllencgncinphaaGreatDoorK3
import Derived.Test.YtllencgncinphaaGreatDoorK4
import Derived.Test.YtllencgncinphaaGreatDoorK25
namespace Go.Proofs.YtllencgncinphaaGreatDoor
open Go.RowKit

set_option maxRecDepth 20000 in
set_option maxHeartbeats 2000000 in
theorem Set_z0 (bz bx : Nat) (negz negx : Bool) (vz vx : Value) (lz lx : List Nat) (w : World) (hlx : lx.length ≤ 1000000) (hne : bz ≠ bx)
    (hz : IntIs w bz 0 negz vz lz) (hx : IntIs w bx 0 negx vx lx) (hs : Sep vz vx) :
    Calls Tryz.prog 134 #[.pointer (some ⟨bz, 0, none⟩), .pointer (some ⟨bx, 0, none⟩)] w (IntRet w bz 0 vz (ival negx lx)) := by
  have hc := set_any vz vx lz lx w.drew hlx hz.nat.drew hx.nat.drew hs
  have hneq : (binOp .neq 59 (.pointer (some ⟨bz, 0, none⟩)) (.pointer (some ⟨bx, 0, none⟩))).run Tryz.prog w = .ok (.bool true) w := StrAt.neq_ne hz.str hx.str hne Tryz.underlying59 (by kernel_rfl)
  have cz1 := hz.str.c1
  have cx1 := hx.str.c1
  rw [Nat.zero_add] at cz1 cx1
  have nz : ¬ (vz.ownBlock = some bz) := fun e => IntIs.ne hz.str hz.nat e rfl
  have nx : ¬ (vz.ownBlock = some bx) := fun e => IntIs.ne hx.str hz.nat e rfl
  have H_hc := Lib.hid hc; clear hc
  have H_hz := Lib.hid hz; clear hz
  have H_hx := Lib.hid hx; clear hx
  have H_nz := Lib.hid nz; clear nz
  have H_nx := Lib.hid nx; clear nx
  have H_hs := Lib.hid hs; clear hs
  go_enter Tryz.func134, Tryz.ntmps134
  go_wp2_with (fail)
  clear hneq
  refine wp_region_E (S := (fun (w' : World) => w'.cell? ⟨bz, 1, none⟩ = some vz ∧ w'.cell? ⟨bx, 1, none⟩ = some vx)) 12 (by kernel_rfl) (by exact ⟨cz1, cx1⟩) (fun hHeld => ?_)
  refine wpAnyE_takeP (i := 0) (v := ?v0_1) rfl (by kernel_rfl) (fun _ _ _ h => h) ⟨by rfl, ?y0_1⟩ (by assumption) ?r0_1
  case y0_1 => (intro w; go_simp; try with_reducible rfl)
  try simp only [Act.put, yA, yB, yD, yE, yF]
  refine wpAnyE_takeP (i := 1) (v := ?v1_1) rfl (by kernel_rfl) (fun _ _ _ h => h) ⟨by rfl, ?y1_1⟩ (by assumption) ?r1_1
  case y1_1 => (intro w; go_simp; try with_reducible rfl)
  try simp only [Act.put, yA, yB, yC, yD, yE, yF]
  refine wpAnyE_takeP (i := 2) (v := ?v2_1) rfl (by kernel_rfl) (fun _ _ _ h => h) ⟨by rfl, ?y2_1⟩ (by assumption) ?r2_1
  case y2_1 => (intro w; go_simp; try with_reducible rfl)
  try simp only [Act.put, yA, yB, yC, yD, yE, yF]
  refine wpAnyE_takeP (i := 3) (v := ?v3_1) rfl (by kernel_rfl) (fun _ _ _ h => h) ⟨by rfl, ?y3_1⟩ (by assumption) ?r3_1
  case y3_1 => (intro w; go_simp; try with_reducible rfl)
  try simp only [Act.put, yA, yB, yC, yD, yE, yF]
  refine wpAnyE_takeL (i := 4) (c := 9) (v := ?v4_1) rfl (by kernel_rfl) (fun _ _ _ h => h) ⟨by rfl, ?y4_1⟩ (by assumption) ?r4_1
  case y4_1 => (intro w hSw; go_split_ands; go_simp; try with_reducible rfl)
  try simp only [Act.put, yA, yB, yC, yD, yE, yF]
  refine wpAnyE_takeP (i := 5) (v := ?v5_1) rfl (by kernel_rfl) (fun _ _ _ h => h) ⟨by rfl, ?y5_1⟩ (by assumption) ?r5_1
  case y5_1 => (intro w; go_simp; try with_reducible rfl)
  try simp only [Act.put, yA, yB, yC, yD, yE, yF]
  refine wpAnyE_takeP (i := 6) (v := ?v6_1) rfl (by kernel_rfl) (fun _ _ _ h => h) ⟨by rfl, ?y6_1⟩ (by assumption) ?r6_1
  case y6_1 => (intro w; go_simp; try with_reducible rfl)
  try simp only [Act.put, yA, yB, yC, yD, yE, yF]
  refine wpAnyE_takeP (i := 7) (v := ?v7_1) rfl (by kernel_rfl) (fun _ _ _ h => h) ⟨by rfl, ?y7_1⟩ (by assumption) ?r7_1
  case y7_1 => (intro w; go_simp; try with_reducible rfl)
  try simp only [Act.put, yA, yB, yC, yD, yE, yF]
  refine wpAnyE_takeL (i := 8) (c := 9) (v := ?v8_1) rfl (by kernel_rfl) (fun _ _ _ h => h) ⟨by rfl, ?y8_1⟩ (by assumption) ?r8_1
  case y8_1 => (intro w hSw; go_split_ands; go_simp; try with_reducible rfl)
  try simp only [Act.put, yA, yB, yC, yD, yE, yF]
  refine wpAnyE_one (i := 9) rfl (by kernel_rfl) (fun K hK => ?_)
  go_simp
  refine H_hc.out.mono ?_; rintro e w1 ⟨rv, rfl, hop⟩; have hop := hop.of_drew; obtain ⟨ra, rc, rfl⟩ := hop.nat.form; have kz := (H_hz.out.str.keep hop.keep H_nz.out).c1; have kx := (H_hx.out.str.keep hop.keep H_nx.out).c1; have kf := (H_hz.out.str.keep hop.keep H_nz.out).f1; have kx0 := (H_hx.out.str.keep hop.keep H_nx.out).c0; have kf0 := (H_hz.out.str.keep hop.keep H_nz.out).f0; have kz0 := (H_hz.out.str.keep hop.keep H_nz.out).c0; rw [Nat.zero_add] at kz kx kf; have H_hop := Lib.hid hop; clear hop
  go_wp2_with (fail)
  have hHeldB : ((fun (w' : World) => w'.cell? ⟨bz, 1, none⟩ = some vz ∧ w'.cell? ⟨bx, 1, none⟩ = some vx)) _ := ⟨kz, kx⟩
  refine hK.out _ _ (fun _ => hHeldB) ?_
  clear hK K
  try simp only [Act.put, yA, yB, yC, yD, yE, yF]
  refine wpAnyE_takeP (i := 10) (v := ?v10_1) rfl (by kernel_rfl) (fun _ _ _ h => h) ⟨by rfl, ?y10_1⟩ (by assumption) ?r10_1
  case y10_1 => (intro w; go_simp; try with_reducible rfl)
  try simp only [Act.put, yA, yB, yC, yD, yE, yF]
  refine wpAnyE_takeP (i := 11) (v := ?v11_1) rfl (by kernel_rfl) (fun _ _ _ h => h) ⟨by rfl, ?y11_1⟩ (by assumption) ?r11_1
  case y11_1 => (intro w; go_simp; try with_reducible rfl)
  try simp only [Act.put, yA, yB, yC, yD, yE, yF]
  refine wpAnyE_one (i := 12) rfl (by kernel_rfl) (fun K hK => ?_)
  go_simp
  refine hK.out _ _ (fun h => Bool.noConfusion (show true = false from h)) ?_
  clear hK K
  try simp only [Act.put, yA, yB, yC, yD, yE, yF]
  refine wpAnyE_done (by kernel_rfl) ?_ _
  clear hHeldB
  have kx0' : (w1.setCell ⟨bz, 1, none⟩ (.slice ra lx.length rc)).cell? ⟨bx, 0, none⟩ = some (.bool negx) := (cell?_setCell_ne (.inr (by simp))).trans kx0
  have kz0' : (w1.setCell ⟨bz, 1, none⟩ (.slice ra lx.length rc)).cell? ⟨bz, 0, none⟩ = some (.bool negz) := (cell?_setCell_ne (.inr (by simp))).trans kz0
  have kf0' : (w1.setCell ⟨bz, 1, none⟩ (.slice ra lx.length rc)).frozen? ⟨bz, 0, none⟩ = false := (frozen?_setCell' _ _ _ _).trans kf0
  clear cz1 cx1 kz kx kf kx0 kf0 kz0
  go_wp2_with (fail)
  go_ret
  exact ⟨rfl, IntIs.made H_hz.out.str H_hz.out.nat H_hop.out H_hx.out.norm negx H_hx.out.zero (ival negx lx) rfl rfl⟩

theorem IntSet_z (bz bx : Nat) (vz vx : Value) (z x : Int) (w : World) (hlx : x.natAbs < wpow 39) (hne : bz ≠ bx) (hz : ZI w bz vz z) (hx : ZI w bx vx x) (hs : Sep vz vx) :
    Calls Tryz.prog 134 #[.pointer (some ⟨bz, 0, none⟩), .pointer (some ⟨bx, 0, none⟩)] w (fun e w' => e = .returned (.pointer (some ⟨bz, 0, none⟩)) ∧ ZSet w bz vz x w') := by
  obtain ⟨nz, lz, hz, _⟩ := hz
  obtain ⟨nx, lx, hx, rfl⟩ := hx
  have h1 := hx.len rfl hlx
  exact (Set_z0 bz bx nz nx vz vx lz lx w (by omega) hne hz hx hs).mono fun _ _ h => h.zset

set_option maxRecDepth 20000 in
set_option maxHeartbeats 2000000 in
theorem made_any (z e : Int) (w : World) (hz : (wdig z).length ≤ 300) (he : -400 ≤ e ∧ e ≤ 400) (hNG : NG ≤ w.heap.size) :
    Calls Tryz.prog 42 #[.agg #[.string (bstr (wdig z)), .int .i64 e]] w (fun r w' => ∃ b v, r = .returned (.tuple #[sd b e, .bool true]) ∧ ZI w' b v z ∧ w.heap.size ≤ b ∧ (∀ k, v.ownBlock = some k → w.heap.size ≤ k) ∧ Fresh w w') := by
  have hw := fun W (hW : Fresh w W) => whole_any z W hz (Nat.le_trans hNG hW.size)
  have hpl := fun W => places_any e W he
  have hmk := fun b W => ZzMake_any b e W
  have hwr : IntKind.i32.wrap e = e := by rw [IntKind.wrap_i32]; omega
  obtain ⟨g, hg⟩ : ∃ g, g = w.heap.size := ⟨_, rfl⟩
  generalize bstr (wdig z) = s at *
  have bx := boxes2 w #[.string s, .int .i64 e] #[.pointer none, .int .i32 0] 23 61 g hg
  have H_bx := Lib.hid bx; clear bx
  have H_hw := Lib.hid hw; clear hw
  have H_hpl := Lib.hid hpl; clear hpl
  have H_hmk := Lib.hid hmk; clear hmk
  have H_hz := Lib.hid hz; clear hz
  have H_hNG := Lib.hid hNG; clear hNG
  go_enter Tryz.func42, Tryz.ntmps42
  go_wp2_with (fail)
  generalize hw1 : (w.alloc _).alloc _ = w1
  rw [← hg]
  obtain ⟨b1, b2, hf⟩ := H_bx.out w1 hw1
  have k0 := row_cell b1 0
  have k1 := row_cell b1 1
  simp at k0 k1
  have H_b1 := Lib.hid b1; clear b1
  have H_b2 := Lib.hid b2; clear b2
  have H_hf := Lib.hid hf; clear hf
  have H_hw1 := Lib.hid hw1; clear hw1
  have H_hg := Lib.hid hg; clear hg
  go_wp2_with (fail)
  refine (H_hw.out _ H_hf.out).mono ?_
  rintro r w2 ⟨b, v, rfl, z2, g2, o2, f2⟩
  have d1 := row_fresh H_b1.out f2
  clear k0 k1
  have k0 := row_cell d1 0
  have k1 := row_cell d1 1
  simp at k0 k1
  have H_z2 := Lib.hid z2; clear z2
  have H_g2 := Lib.hid g2; clear g2
  have H_o2 := Lib.hid o2; clear o2
  have H_f2 := Lib.hid f2; clear f2
  have H_d1 := Lib.hid d1; clear d1
  go_wp2_with (fail)
  refine (H_hpl.out _).mono ?_
  rintro r w3 ⟨rfl, hw3⟩
  obtain rfl : w2 = w3 := hw3.symm
  go_wp2_with (fail)
  refine (H_hmk.out b _).mono ?_
  rintro r w4 ⟨rfl, f4⟩
  have d2 := row_fresh H_b2.out (fresh_trans H_f2.out f4)
  have p0 := row_cell d2 0
  have p1 := row_cell d2 1
  simp at p0 p1
  have q0 : w4.frozen? ⟨g + 1, 0, none⟩ = false := frozen_of_row _ _ _ _ _ d2
  have q1 : w4.frozen? ⟨g + 1, 1, none⟩ = false := frozen_of_row _ _ _ _ _ d2
  have H_f4 := Lib.hid f4; clear f4
  have H_d2 := Lib.hid d2; clear d2
  go_wp2_with (fail)
  refine bodyPost_ret (results_cell_tmp_row rfl _ _ (g + 1) 61 #[.pointer (some ⟨b, 0, none⟩), .int .i32 e] (0, 0) _ rfl (row_set (row_set H_d2.out)) Tryz.underlying61 rfl (by kernel_rfl)) rfl ?_
  have hgw := H_hg.out
  have h1s := H_hf.out.size
  have hlt2 := lt_of_row H_b2.out
  have kk : ∀ u u', Keep (fun k => k = g + 1) w4 ((w4.setCell ⟨g + 1, 0, none⟩ u).setCell ⟨g + 1, 1, none⟩ u') := fun u u' => ((Keep.refl (fun k => k = g + 1) w4).setCell (p := ⟨g + 1, 0, none⟩) (fun _ => rfl) u).setCell (p := ⟨g + 1, 1, none⟩) (fun _ => rfl) u'
  exact ⟨b, v, rfl, (H_z2.out.fresh H_f4.out).keep (kk _ _) (fun h => by have := H_g2.out; omega) (fun k hk h => by have := H_o2.out k hk; omega), Nat.le_trans h1s H_g2.out, fun k hk => Nat.le_trans h1s (H_o2.out k hk),
    ((fresh_trans H_hf.out (fresh_trans H_f2.out H_f4.out)).setCell (p := ⟨g + 1, 0, none⟩) (fun h => by change g + 1 < w.heap.size at h; omega) _).setCell (p := ⟨g + 1, 1, none⟩) (fun h => by change g + 1 < w.heap.size at h; omega) _⟩

set_option maxRecDepth 20000 in
set_option maxHeartbeats 2000000 in
theorem dec_any (b : Nat) (v : Value) (z e : Int) (p : Nat) (w : World) (he : -2147483648 ≤ e ∧ e ≤ 2147483647) (hx : ZI w b v z) (hp : p ≤ 600) (hz : z.natAbs < 10 ^ p) :
    Calls Tryz.prog 44 #[sd b e] w (fun r w' => r = .returned (.agg #[.string (bstr (wdig z)), .int .i64 e]) ∧ Fresh w w') := by
  have hdg := fun W (hW : Fresh w W) => digits_any b v z p W (hx.fresh hW) hp hz
  have hzv := fun W => ZzValue_any b e W
  have hex := fun W => Exponent_any b e W
  have hwr : IntKind.i64.wrap e = e := by rw [IntKind.wrap_i64]; omega
  obtain ⟨g, hg⟩ : ∃ g, g = w.heap.size := ⟨_, rfl⟩
  generalize bstr (wdig z) = s at *
  have bx := boxes2 w #[.pointer (some ⟨b, 0, none⟩), .int .i32 e] #[.string ⟨#[]⟩, .int .i64 0] 61 23 g hg
  have H_bx := Lib.hid bx; clear bx
  have H_hdg := Lib.hid hdg; clear hdg
  have H_hzv := Lib.hid hzv; clear hzv
  have H_hex := Lib.hid hex; clear hex
  have H_hx := Lib.hid hx; clear hx
  have H_hz := Lib.hid hz; clear hz
  have H_he := Lib.hid he; clear he
  go_enter Tryz.func44, Tryz.ntmps44
  go_wp2_with (fail)
  generalize hw1 : (w.alloc _).alloc _ = w1
  rw [← hg]
  obtain ⟨b1, b2, hf⟩ := H_bx.out w1 hw1
  have k0 := row_cell b1 0
  have k1 := row_cell b1 1
  simp at k0 k1
  have H_b1 := Lib.hid b1; clear b1
  have H_b2 := Lib.hid b2; clear b2
  have H_hf := Lib.hid hf; clear hf
  have H_hw1 := Lib.hid hw1; clear hw1
  have H_hg := Lib.hid hg; clear hg
  go_region_held3 (fun (w' : World) => w'.cell? ⟨g, 0, none⟩ = some (.pointer (some ⟨b, 0, none⟩)) ∧ w'.cell? ⟨g, 1, none⟩ = some (.int .i32 e)) (first | exact ⟨k0, k1⟩ | exact ⟨m0, m1⟩ | exact ⟨n0, n1⟩ | exact ⟨o0, o1⟩ | exact ⟨(cell?_setCell_ne (.inl (by simp))).trans ((cell?_setCell_ne (.inl (by simp))).trans o0), (cell?_setCell_ne (.inl (by simp))).trans ((cell?_setCell_ne (.inl (by simp))).trans o1)⟩) (first
    | (go_at_call 94; (with_reducible refine (H_hzv.out _).mono ?_); rintro r w2 ⟨rfl, y⟩; have hf2 : Fresh w1 w2 := (by first | exact y | exact y.of_drew | exact y.of_drewN); have m0 := cell_fresh k0 hf2; have m1 := cell_fresh k1 hf2; have H_hf2 := Lib.hid hf2; clear y hf2)
    | (go_at_call 93; (with_reducible refine (H_hdg.out _ (fresh_trans H_hf.out H_hf2.out)).mono ?_); rintro r w3 ⟨rfl, y⟩; have n0 := cell_fresh m0 y; have n1 := cell_fresh m1 y; have hf3 := fresh_trans H_hf2.out y; have H_hf3 := Lib.hid hf3; clear y hf3)
    | (go_at_call 95; (with_reducible refine (H_hex.out _).mono ?_); rintro r w4 ⟨rfl, y⟩; have o0 := cell_fresh n0 y; have o1 := cell_fresh n1 y; have hf4 := fresh_trans H_hf3.out y; have b3 := row_fresh H_b2.out hf4; have p0 := row_cell b3 0; have p1 := row_cell b3 1; simp at p0 p1; have q0 : w4.frozen? ⟨g + 1, 0, none⟩ = false := frozen_of_row _ _ _ _ _ b3; have q1 : w4.frozen? ⟨g + 1, 1, none⟩ = false := frozen_of_row _ _ _ _ _ b3; have H_hf4 := Lib.hid hf4; have H_b3 := Lib.hid b3; clear y hf4 b3))
  go_wp2
  refine bodyPost_ret (results_cell_row rfl _ _ (g + 1) 23 #[.string s, .int .i64 e] (0, 0) _ rfl (row_set (row_set H_b3.out)) Tryz.underlying23 rfl (by kernel_rfl)) rfl ?_
  have hgw := H_hg.out
  exact ⟨rfl, ((fresh_trans H_hf.out H_hf4.out).setCell (p := ⟨g + 1, 0, none⟩) (fun h => by change g + 1 < w.heap.size at h; omega) _).setCell (p := ⟨g + 1, 1, none⟩) (fun h => by change g + 1 < w.heap.size at h; omega) _⟩

end Go.Proofs.YtllencgncinphaaGreatDoor

/- math.Abs, and the difference of two exponents as floats. -/
namespace Go.Proofs.YtllencgncinphaaGreatDoor
open Go.RowKit Ieee

/-- the bits of a float without its sign -/
def fabs (b : Nat) : Nat := (bits BinOp.andNot IntKind.u64 (b : Int) 9223372036854775808).toNat

/-- what a small whole number reads as -/
def fnum (a : Int) : Datum := if a = 0 then .number false 0 (-1074) else .number (decide (a < 0)) (a.natAbs * 2 ^ (52 - a.natAbs.log2)) ((a.natAbs.log2 : Int) - 52)

theorem fread_all : ((List.range 801).all fun i => decide (double.read (floatOfInt .f64 ((i : Int) - 400)) = fnum ((i : Int) - 400))) = true := by decide +kernel

theorem fread {a : Int} (h : -400 ≤ a ∧ a ≤ 400) : double.read (floatOfInt .f64 a) = fnum a := by
  have h0 := fread_all
  rw [List.all_eq_true] at h0
  have h1 := h0 (a + 400).toNat (List.mem_range.2 (by omega))
  rw [show (((a + 400).toNat : Nat) : Int) - 400 = a by omega, decide_eq_true_eq] at h1
  exact h1

theorem fback_all : ((List.range 801).all fun d => (floatToIntVal .f64 (fabs (double.nearest false d 0)) .i64 == some (d : Int)) && (floatToIntVal .f64 (fabs (double.nearest true d 0)) .i64 == some (d : Int))) = true := by decide +kernel

theorem fback {d : Nat} (neg : Bool) (h : d ≤ 800) : floatToIntVal .f64 (fabs (double.nearest neg d 0)) .i64 = some (d : Int) := by
  have h0 := fback_all
  rw [List.all_eq_true] at h0
  have h1 := h0 d (List.mem_range.2 (by omega))
  rw [Bool.and_eq_true, beq_iff_eq, beq_iff_eq] at h1
  cases neg
  · exact h1.1
  · exact h1.2

theorem fcut_exact {m : Nat} (neg : Bool) (j : Nat) (hm : 0 < m) : Toward.even.cut neg (m * 2 ^ j) j = m := by
  have hlog : j ≤ (m * 2 ^ j).log2 := by
    rw [Nat.le_log2 (Nat.ne_of_gt (Nat.mul_pos hm (Nat.two_pow_pos j)))]
    exact Nat.le_mul_of_pos_left _ hm
  unfold Toward.cut
  rw [Nat.min_eq_left (by omega)]
  simp only [Nat.shiftLeft_eq, Nat.one_mul]
  rw [Nat.mul_div_cancel _ (Nat.two_pow_pos j), Nat.mul_mod_left]
  have := Nat.two_pow_pos j
  simp

theorem fcut_zero (neg : Bool) (n : Nat) : Toward.even.cut neg n 0 = n := by
  unfold Toward.cut
  simp [Nat.mod_one]

theorem flog {d : Nat} (K : Nat) (hd : 0 < d) : (d * 2 ^ K).log2 = d.log2 + K := by
  have h1 := Nat.log2_self_le (Nat.ne_of_gt hd)
  have h2 := @Nat.lt_log2_self d
  apply Nat.le_antisymm
  · have : (d * 2 ^ K) < 2 ^ (d.log2 + K + 1) := by
      rw [show d.log2 + K + 1 = (d.log2 + 1) + K by omega, Nat.pow_add]
      exact Nat.mul_lt_mul_of_pos_right h2 (Nat.two_pow_pos K)
    have := (Nat.log2_lt (Nat.ne_of_gt (Nat.mul_pos hd (Nat.two_pow_pos K)))).2 this
    omega
  · rw [Nat.le_log2 (Nat.ne_of_gt (Nat.mul_pos hd (Nat.two_pow_pos K))), Nat.pow_add]
    exact Nat.mul_le_mul_right _ h1

theorem fnearest_scale (neg : Bool) {d : Nat} (K : Nat) (hd : 0 < d) (hL : d.log2 ≤ 52) : double.nearest neg (d * 2 ^ K) (-(K : Int)) = double.nearest neg d 0 := by
  have hp := Nat.two_pow_pos K
  unfold Format.nearest
  rw [if_neg (Nat.ne_of_gt (Nat.mul_pos hd hp)), if_neg (Nat.ne_of_gt hd), flog K hd]
  have hlp : double.leastPlace = -1074 := by decide
  have hfb : double.fractionBits = 52 := rfl
  rw [hlp, hfb]
  generalize d.log2 = L at *
  have e1 : max (-(K : Int) + ((L + K : Nat) : Int) - (52 : Nat)) (-1074) = (L : Int) - 52 := by omega
  have e2 : max ((0 : Int) + (L : Int) - (52 : Nat)) (-1074) = (L : Int) - 52 := by omega
  simp only [e1, e2]
  have k2 : Toward.even.cut neg (d <<< ((0 : Int) - ((L : Int) - 52)).toNat) (((L : Int) - 52) - 0).toNat = d * 2 ^ (52 - L) := by
    rw [show (((L : Int) - 52) - 0).toNat = 0 by omega, fcut_zero, Nat.shiftLeft_eq, show ((0 : Int) - ((L : Int) - 52)).toNat = 52 - L by omega]
  have k1 : Toward.even.cut neg ((d * 2 ^ K) <<< (-(K : Int) - ((L : Int) - 52)).toNat) (((L : Int) - 52) - -(K : Int)).toNat = d * 2 ^ (52 - L) := by
    rcases Nat.le_total K (52 - L) with h | h
    · rw [show (((L : Int) - 52) - -(K : Int)).toNat = 0 by omega, fcut_zero, Nat.shiftLeft_eq, show (-(K : Int) - ((L : Int) - 52)).toNat = 52 - L - K by omega, Nat.mul_assoc, ← Nat.pow_add, show K + (52 - L - K) = 52 - L by omega]
    · obtain ⟨j, hj⟩ : ∃ j, K = (52 - L) + j := ⟨K - (52 - L), by omega⟩
      rw [show (((L : Int) - 52) - -(K : Int)).toNat = j by omega, Nat.shiftLeft_eq, show (-(K : Int) - ((L : Int) - 52)).toNat = 0 by omega, Nat.pow_zero, Nat.mul_one, hj, Nat.pow_add, ← Nat.mul_assoc, fcut_exact _ _ (Nat.mul_pos hd (Nat.two_pow_pos _))]
  rw [k1, k2]

/-- the shift of the datum of a small number -/
theorem fnum_eq {a : Int} (ha : -400 ≤ a ∧ a ≤ 400) : ∃ s m i, fnum a = .number s m i ∧ -1074 ≤ i ∧ i ≤ 0 ∧ (∀ K : Nat, -(K : Int) ≤ i → signed s m (i + K).toNat = a * 2 ^ K ∧ signed (!s) m (i + K).toNat = -(a * 2 ^ K)) ∧ (a = 0 → s = false) ∧ (a ≠ 0 → (s = true ↔ a < 0)) := by
  unfold fnum
  by_cases h0 : a = 0
  · subst h0
    rw [if_pos rfl]
    refine ⟨false, 0, -1074, rfl, by omega, by omega, fun K _ => by simp [signed], fun _ => rfl, fun h => absurd rfl h⟩
  · rw [if_neg h0]
    have hL : a.natAbs.log2 ≤ 8 := by
      have : a.natAbs.log2 < 9 := (Nat.log2_lt (by omega)).2 (by omega)
      omega
    generalize a.natAbs.log2 = L at *
    refine ⟨decide (a < 0), a.natAbs * 2 ^ (52 - L), (L : Int) - 52, rfl, by omega, by omega, fun K hK => ?_, fun h => absurd h h0, fun _ => by simp⟩
    have e : (a.natAbs * 2 ^ (52 - L)) <<< ((L : Int) - 52 + K).toNat = a.natAbs * 2 ^ K := by
      rw [Nat.shiftLeft_eq, Nat.mul_assoc, ← Nat.pow_add, show 52 - L + ((L : Int) - 52 + K).toNat = K by omega]
    unfold signed
    rw [e]
    have e2 : ((a.natAbs * 2 ^ K : Nat) : Int) = (a.natAbs : Int) * 2 ^ K := by push_cast; rfl
    rw [e2]
    by_cases hn : a < 0
    · have h3 : (a.natAbs : Int) = -a := by omega
      rw [h3]
      simp [hn, Int.neg_mul]
    · have h3 : (a.natAbs : Int) = a := by omega
      rw [h3]
      simp [hn]

/-- a difference of small whole numbers by way of floats -/
theorem fdiff_ok {a b : Int} (ha : -400 ≤ a ∧ a ≤ 400) (hb : -400 ≤ b ∧ b ≤ 400) : ∃ r, floatBits .sub .f64 (floatOfInt .f64 a) (floatOfInt .f64 b) = some r ∧ floatToIntVal .f64 (fabs r) .i64 = some (((a - b).natAbs : Nat) : Int) := by
  obtain ⟨s, m, i, e1, i1, i2, h1, h1z, h1s⟩ := fnum_eq ha
  obtain ⟨t, n, j, e2, j1, j2, h2, h2z, h2s⟩ := fnum_eq hb
  obtain ⟨K, hK⟩ : ∃ K : Nat, min i j = -(K : Int) := ⟨(-(min i j)).toNat, by omega⟩
  have g1 := (h1 K (by omega)).1
  have g2 := (h2 K (by omega)).2
  have hpK : (0 : Int) < 2 ^ K := Int.pow_pos (by omega)
  have ht : a * 2 ^ K + -(b * 2 ^ K) = (a - b) * 2 ^ K := by rw [Int.sub_mul, Int.sub_eq_add_neg]
  have hsum : floatBits .sub .f64 (floatOfInt .f64 a) (floatOfInt .f64 b) = some (double.nearest (if (a - b) * 2 ^ K = 0 then s && !t else decide ((a - b) * 2 ^ K < 0)) ((a - b) * 2 ^ K).natAbs (-(K : Int))) := by
    unfold floatBits
    show Ieee.Format.sub double _ _ = _
    unfold Ieee.Format.sub
    rw [fread ha, fread hb, e1, e2]
    simp only [Datum.opposite, Datum.sum, Option.map_some, hK, Int.sub_neg, g1, g2, ht, Ieee.Format.write]
  refine ⟨_, hsum, ?_⟩
  have habs : ((a - b) * 2 ^ K).natAbs = (a - b).natAbs * 2 ^ K := by rw [Int.natAbs_mul, Int.natAbs_pow]; rfl
  rw [habs]
  by_cases hd : a - b = 0
  · rw [hd]
    simp only [Int.zero_mul, if_true, Int.natAbs_zero, Nat.zero_mul]
    have hnz : ∀ neg, double.nearest neg 0 (-(K : Int)) = double.nearest neg 0 0 := fun neg => by unfold Ieee.Format.nearest; rw [if_pos rfl, if_pos rfl]
    rw [hnz]
    exact fback _ (by omega)
  · have hdp : 0 < (a - b).natAbs := by omega
    rw [fnearest_scale _ K hdp (by have : (a - b).natAbs.log2 < 10 := (Nat.log2_lt (by omega)).2 (by omega); omega)]
    exact fback _ (by omega)

theorem run_f64bits (b : Nat) (w : World) : (callFunc 155 #[.float .f64 b]).run Tryz.prog w = .ok (.value (.int .u64 b)) w := by
  rw [run_callFunc_extern (e := Extern.MathFloatBits.float64bits) Tryz.func155 (by kernel_rfl) rfl (by kernel_rfl) (by kernel_rfl)]
  rfl

theorem run_f64frombits (n : Int) (w : World) : (callFunc 154 #[.int .u64 n]).run Tryz.prog w = .ok (.value (.float .f64 n.toNat)) w := by
  rw [run_callFunc_extern (e := Extern.MathFloatBits.float64frombits) Tryz.func154 (by kernel_rfl) rfl (by kernel_rfl) (by kernel_rfl)]
  rfl

theorem Abs_any (b : Nat) (w : World) : Calls Tryz.prog 135 #[.float .f64 b] w (fun e w' => e = .returned (.float .f64 (fabs b)) ∧ w' = w) := by
  have h1 := run_f64bits b w
  have h2 := run_f64frombits (bits BinOp.andNot IntKind.u64 (b : Int) 9223372036854775808) w
  go_enter Tryz.func135, Tryz.ntmps135
  go_wp2
  go_ret
  exact ⟨rfl, rfl⟩

end Go.Proofs.YtllencgncinphaaGreatDoor

/- shopspring: rescale to a smaller exponent: the coefficient times a power of ten. -/
namespace Go.Proofs.YtllencgncinphaaGreatDoor
open Go.RowKit

end Go.Proofs.YtllencgncinphaaGreatDoor

/- Plain arithmetic of dividing two words by one. -/
namespace Go.Proofs.YtllencgncinphaaGreatDoor
open Go.RowKit

theorem mg_eq {B d k V X1 X0 q f : Nat} (hV : V * d + k = B * B) (hd : d ≤ B) (hq : q * B + f = V * X1 + X0) :
    d * q * B + (X1 * k + X0 * (B - d) + d * f) = (X1 * B + X0) * B := by
  obtain ⟨m, hm⟩ : ∃ m, B = d + m := ⟨B - d, by omega⟩
  rw [show B - d = m by omega]
  grind

theorem mg_bound {B d k V X1 X0 q f : Nat} (hV : V * d + k = B * B) (hk : k ≤ d) (hd : d ≤ B) (hd0 : 0 < d) (h1 : X1 < d) (h0 : X0 < B) (hq : q * B + f = V * X1 + X0) (hf : f < B) :
    d * q ≤ X1 * B + X0 ∧ X1 * B + X0 < d * q + (B + d) := by
  have e := mg_eq hV hd hq
  have hB : 0 < B := by omega
  constructor
  · exact Nat.le_of_mul_le_mul_right (by omega) hB
  · refine Nat.lt_of_mul_lt_mul_right (a := B) ?_
    rw [← e, Nat.add_mul, Nat.add_mul]
    have a1 : X1 * k ≤ (d - 1) * d := Nat.mul_le_mul (by omega) hk
    have a2 : X0 * (B - d) ≤ (B - 1) * (B - d) := Nat.mul_le_mul_right _ (by omega)
    have a3 : d * f ≤ d * (B - 1) := Nat.mul_le_mul_left _ (by omega)
    obtain ⟨m, hm⟩ : ∃ m, B = d + m := ⟨B - d, by omega⟩
    obtain ⟨p, hp⟩ : ∃ p, d = p + 1 := ⟨d - 1, by omega⟩
    subst hm
    subst hp
    rw [show p + 1 - 1 = p by omega] at a1
    rw [show p + 1 + m - (p + 1) = m by omega, show p + 1 + m - 1 = p + m by omega] at a2
    rw [show p + 1 + m - 1 = p + m by omega] at a3
    rw [show p + 1 + m - (p + 1) = m by omega]
    have b1 : p * (p + 1) = p * p + p := by grind
    have b2 : (p + m) * m = p * m + m * m := by grind
    have b3 : (p + 1) * (p + m) = p * p + p * m + p + m := by grind
    have b4 : (p + 1 + m) * (p + 1 + m) = p * p + m * m + 2 * (p * m) + 2 * p + 2 * m + 1 := by grind
    have b5 : (p + 1) * (p + 1 + m) = p * p + p * m + 2 * p + m + 1 := by grind
    omega

/-- the guess is put right at most twice -/
theorem mg_fix {B d q X r : Nat} (hX : X = d * q + r) (hr : r < B + d) (hB : B ≤ 2 * d) (hd : d ≤ B) (h0 : 0 < d) :
    ∃ q' r' q'' r'', ((B ≤ r ∧ q' = q + 1 ∧ r' = r - d) ∨ (r < B ∧ q' = q ∧ r' = r)) ∧ r' < B ∧ ((d ≤ r' ∧ q'' = q' + 1 ∧ r'' = r' - d) ∨ (r' < d ∧ q'' = q' ∧ r'' = r')) ∧ X = d * q'' + r'' ∧ r'' < d := by
  have e1 : d * (q + 1) = d * q + d := by rw [Nat.mul_add, Nat.mul_one]
  have e2 : d * (q + 1 + 1) = d * q + d + d := by rw [Nat.mul_add, e1, Nat.mul_one]
  by_cases h : B ≤ r
  · by_cases h2 : d ≤ r - d
    · exact ⟨q + 1, r - d, q + 1 + 1, r - d - d, .inl ⟨h, rfl, rfl⟩, by omega, .inl ⟨h2, rfl, rfl⟩, by omega, by omega⟩
    · exact ⟨q + 1, r - d, q + 1, r - d, .inl ⟨h, rfl, rfl⟩, by omega, .inr ⟨by omega, rfl, rfl⟩, by omega, by omega⟩
  · by_cases h2 : d ≤ r
    · exact ⟨q, r, q + 1, r - d, .inr ⟨by omega, rfl, rfl⟩, by omega, .inl ⟨h2, rfl, rfl⟩, by omega, by omega⟩
    · exact ⟨q, r, q, r, .inr ⟨by omega, rfl, rfl⟩, by omega, .inr ⟨by omega, rfl, rfl⟩, by omega, by omega⟩

/-- one half digit of a quotient (Knuth): y = y1 * b + y0 with y1 at least half of b; the guess q of U = u * b + u1, u < y -/
theorem kn_start {b y1 y0 u q rh : Nat} (hy0 : y0 < b) (hb : b ≤ 2 * y1) (hu : u < y1 * b + y0) (hq : q * y1 + rh = u) : q ≤ b + 1 := by
  rcases Nat.lt_or_ge (b + 1) q with h | h
  · exfalso
    have h1 : (b + 2) * y1 ≤ q * y1 := Nat.mul_le_mul_right _ (by omega)
    have h2 : (b + 2) * y1 = y1 * b + 2 * y1 := by rw [Nat.add_mul, Nat.mul_comm b]
    omega
  · exact h

/-- the guess is too great as long as it is put right -/
theorem kn_great {b y1 y0 u u1 q rh Q : Nat} (hq : q * y1 + rh = u) (hQ : Q * (y1 * b + y0) ≤ u * b + u1) (hQ2 : Q < b) (h : b ≤ q ∨ b * rh + u1 < q * y0) : Q ≤ q - 1 := by
  rcases h with h | h
  · omega
  · have h1 : u * b + u1 < q * (y1 * b + y0) := by
      have : q * (y1 * b + y0) = (q * y1 + rh) * b - b * rh + q * y0 := by
        have : (q * y1 + rh) * b = q * (y1 * b) + b * rh := by rw [Nat.add_mul, Nat.mul_assoc, Nat.mul_comm rh]
        rw [this, Nat.add_sub_cancel, Nat.mul_add]
      have h2 : (q * y1 + rh) * b = q * (y1 * b) + b * rh := by rw [Nat.add_mul, Nat.mul_assoc, Nat.mul_comm rh]
      rw [← hq]
      omega
    have h3 : Q < q := by
      rcases Nat.lt_or_ge Q q with h4 | h4
      · exact h4
      · exfalso
        have h5 := Nat.mul_le_mul_right (y1 * b + y0) h4
        omega
    omega

/-- where it ends it is not too great -/
theorem kn_end {b y1 y0 u u1 q rh : Nat} (hq : q * y1 + rh = u) (h : q * y0 ≤ b * rh + u1) : q * (y1 * b + y0) ≤ u * b + u1 := by
  have h2 : (q * y1 + rh) * b = q * (y1 * b) + b * rh := by rw [Nat.add_mul, Nat.mul_assoc, Nat.mul_comm rh]
  rw [← hq, h2, Nat.mul_add]
  omega

theorem kn_far {b y0 q rh u1 : Nat} (hy0 : y0 < b) (hq : q ≤ b) (hr : b ≤ rh) : q * y0 ≤ b * rh + u1 := by
  have h1 : q * y0 ≤ b * b := Nat.mul_le_mul hq (by omega)
  have h2 : b * b ≤ b * rh := Nat.mul_le_mul_left _ hr
  omega

theorem kn_is {Y U q Q : Nat} (hY : 0 < Y) (hQ : Q = U / Y) (h1 : Q ≤ q) (h2 : q * Y ≤ U) : q = Q := by
  have : q ≤ U / Y := by rw [Nat.le_div_iff_mul_le hY]; exact h2
  omega

end Go.Proofs.YtllencgncinphaaGreatDoor

/- The plain law of long division by words (Knuth's algorithm D): what a guessed digit comes to. No program is in sight. -/
namespace Go.Proofs.YtllencgncinphaaGreatDoor
open Go.RowKit

/-- the first digit of what is divided is at most that of the divisor -/
theorem kd_top {b v1 v2 p vr V u0 u1 u2 ur U : Nat} (hV : V = (v1 * b + v2) * p + vr) (hvr : vr < p) (hv2 : v2 < b) (hU : U = ((u0 * b + u1) * b + u2) * p + ur) (hlt : U < V * b) : u0 ≤ v1 := by
  rcases Nat.lt_or_ge v1 u0 with h | h
  · exfalso
    have hb : 0 < b := by omega
    have a1 : (v1 + 1) * b * b * p ≤ ((u0 * b + u1) * b + u2) * p := Nat.mul_le_mul_right p (by
      have h1 := Nat.mul_le_mul_right b (Nat.mul_le_mul_right b (show v1 + 1 ≤ u0 from h))
      have h2 := Nat.mul_le_mul_right b (Nat.le_add_right (u0 * b) u1)
      omega)
    have a2 : V < (v1 * b + v2 + 1) * p := by rw [hV, Nat.add_mul (v1 * b + v2) 1 p]; omega
    have a3 : (v1 * b + v2 + 1) * p * b ≤ (v1 + 1) * b * p * b := Nat.mul_le_mul_right b (Nat.mul_le_mul_right p (by rw [Nat.add_mul, Nat.one_mul]; omega))
    have a4 := Nat.mul_lt_mul_of_pos_right a2 hb
    have a5 : (v1 + 1) * b * p * b = (v1 + 1) * b * b * p := Nat.mul_right_comm _ _ _
    omega
  · exact h

/-- the greatest digit is guessed: at most one too great -/
theorem kd_max {b v1 v2 p vr V u1 u2 ur U : Nat} (hV : V = (v1 * b + v2) * p + vr) (hvr : vr < p) (hv2 : v2 < b) (hb : b ≤ 2 * v1) (hU : U = ((v1 * b + u1) * b + u2) * p + ur) (hlt : U < V * b) :
    U / V ≤ b - 1 ∧ b - 1 ≤ U / V + 1 := by
  have hb0 : 0 < b := by omega
  have hp : 0 < p := by omega
  have hvp : 0 < v1 := by omega
  have hV0 : 0 < V := by
    rw [hV]
    have : 1 * 1 ≤ (v1 * b + v2) * p := Nat.mul_le_mul (by have := Nat.mul_le_mul hvp hb0; omega) hp
    omega
  constructor
  · have : U / V < b := by rw [Nat.div_lt_iff_lt_mul hV0, Nat.mul_comm]; exact hlt
    exact Nat.le_sub_one_of_lt this
  · rcases Nat.lt_or_ge b 2 with h | h
    · generalize U / V = x; omega
    · obtain ⟨c, rfl⟩ : ∃ c, b = c + 2 := ⟨b - 2, by omega⟩
      have a2 : V ≤ (v1 + 1) * (c + 2) * p := by
        have h1 : V < (v1 * (c + 2) + v2 + 1) * p := by rw [hV, Nat.add_mul (v1 * (c + 2) + v2) 1 p]; omega
        have h2 : (v1 * (c + 2) + v2 + 1) * p ≤ (v1 + 1) * (c + 2) * p := Nat.mul_le_mul_right p (by rw [Nat.add_mul, Nat.one_mul]; omega)
        omega
      have a3 : c * (v1 + 1) ≤ v1 * (c + 2) := by
        rw [Nat.mul_add, Nat.mul_add, Nat.mul_comm c v1]; omega
      have a4 : c * V ≤ v1 * (c + 2) * ((c + 2) * p) := by
        have h1 := Nat.mul_le_mul_left c a2
        have h2 : c * ((v1 + 1) * (c + 2) * p) = c * (v1 + 1) * ((c + 2) * p) := by rw [Nat.mul_assoc (v1 + 1), Nat.mul_assoc]
        have h3 := Nat.mul_le_mul_right ((c + 2) * p) a3
        omega
      have a5 : v1 * (c + 2) * ((c + 2) * p) ≤ U := by
        have h1 : v1 * (c + 2) * ((c + 2) * p) = v1 * (c + 2) * (c + 2) * p := by rw [← Nat.mul_assoc]
        have h2 : v1 * (c + 2) * (c + 2) * p ≤ ((v1 * (c + 2) + u1) * (c + 2) + u2) * p := Nat.mul_le_mul_right p (by
          have := Nat.mul_le_mul_right (c + 2) (Nat.le_add_right (v1 * (c + 2)) u1)
          omega)
        omega
      have : c ≤ U / V := by rw [Nat.le_div_iff_mul_le hV0]; omega
      exact Nat.succ_le_succ this

/-- a digit guessed by three digits over two: at most one too great -/
theorem kd_three {b V2 p vr V U3 ur U q : Nat} (hV : V = V2 * p + vr) (hvr : vr < p) (hV2 : b ≤ V2) (hU : U = U3 * p + ur) (hur : ur < p) (h1 : U3 / V2 ≤ q) (h2 : q * V2 ≤ U3) (hq : q < b) :
    U / V ≤ q ∧ q ≤ U / V + 1 := by
  have hb0 : 0 < b := by omega
  have hV20 : 0 < V2 := by omega
  have hp : 0 < p := by omega
  have hV0 : 0 < V := by
    have : 1 * 1 ≤ V2 * p := Nat.mul_le_mul hV20 hp
    omega
  constructor
  · have e1 : U3 < (q + 1) * V2 := by
      have := Nat.lt_mul_of_div_lt (show U3 / V2 < q + 1 by omega) hV20
      exact this
    have e2 : (U3 + 1) * p ≤ (q + 1) * V2 * p := Nat.mul_le_mul_right p e1
    have e3 : (q + 1) * V2 * p ≤ (q + 1) * V := by rw [Nat.mul_assoc, hV]; exact Nat.mul_le_mul_left _ (by omega)
    have e4 : U < (U3 + 1) * p := by rw [hU, Nat.add_mul]; omega
    have : U / V < q + 1 := by rw [Nat.div_lt_iff_lt_mul hV0]; omega
    exact Nat.le_of_lt_succ this
  · rcases Nat.eq_zero_or_pos q with h | h
    · rw [h]; exact Nat.zero_le _
    · obtain ⟨c, rfl⟩ : ∃ c, q = c + 1 := ⟨q - 1, by omega⟩
      have e1 : (c + 1) * V2 * p ≤ U := by
        have := Nat.mul_le_mul_right p h2
        omega
      have e2 : (c + 1) * V = (c + 1) * V2 * p + (c + 1) * vr := by rw [hV, Nat.mul_add, Nat.mul_assoc]
      have e3 : (c + 1) * vr ≤ b * p := Nat.mul_le_mul (by omega) (by omega)
      have e4 : b * p ≤ V2 * p := Nat.mul_le_mul_right p hV2
      have e5 : (c + 1) * V = c * V + V := by rw [Nat.add_mul, Nat.one_mul]
      have : c ≤ U / V := by rw [Nat.le_div_iff_mul_le hV0]; omega
      exact Nat.succ_le_succ this

theorem val_snoc (l : List Nat) (x : Nat) : val (l ++ [x]) = val l + wpow l.length * x := by
  rw [val_append]; simp [val]

/-- the last of n + 1 words, split off -/
theorem last_split {D : List Nat} {n : Nat} (h : D.length = n + 1) : D = D.take n ++ [D.getD n 0] ∧ (D.take n).length = n := by
  refine ⟨?_, by simp; omega⟩
  have := List.take_succ_eq_append_getElem (l := D) (i := n) (by omega)
  rw [List.take_of_length_le (by omega)] at this
  rw [show D.getD n 0 = D[n] by simp [List.getD, h]]
  exact this

/-- words whose worth is below that of n words: the word behind them is 0 -/
theorem top_zero {D : List Nat} {n : Nat} (h : D.length = n + 1) (hv : val D < wpow n) : D = D.take n ++ [0] ∧ val (D.take n) = val D := by
  obtain ⟨e, hl⟩ := last_split h
  have e2 : val D = val (D.take n) + wpow n * D.getD n 0 := by
    have := val_snoc (D.take n) (D.getD n 0)
    rw [← e, hl] at this; exact this
  have h0 : D.getD n 0 = 0 := by
    rcases Nat.eq_zero_or_pos (D.getD n 0) with h | h
    · exact h
    · have : wpow n * 1 ≤ wpow n * D.getD n 0 := Nat.mul_le_mul_left _ h
      omega
  rw [h0] at e e2
  exact ⟨e, by omega⟩

/-- the product of the divisor with the guessed digit, n + 1 words -/
def kdP (v : List Nat) (q : Nat) : List Nat := (mulVs v q 0).1 ++ [(mulVs v q 0).2]

theorem kdP_length (v : List Nat) (q : Nat) : (kdP v q).length = v.length + 1 := by simp [kdP, mulVs_length]

theorem kdP_val (v : List Nat) (q : Nat) : val (kdP v q) = val v * q := by
  have := mulVs_val v q 0
  rw [kdP, val_snoc, mulVs_length]; omega

theorem kdP_lt {v : List Nat} {q : Nat} (hv : ∀ a ∈ v, a < 18446744073709551616) (hq : q < 18446744073709551616) : ∀ a ∈ kdP v q, a < 18446744073709551616 := by
  intro a ha
  simp only [kdP, List.mem_append, List.mem_singleton] at ha
  rcases ha with ha | rfl
  · exact mulVs_lt v q 0 a ha
  · exact mulVs_carry v q 0 hv hq (by omega)

/-- no borrow: the digit is right, and what is left stands in n words -/
theorem kd_fine {v W : List Nat} {n q : Nat} (hW : W.length = n + 1) (hv : v.length = n) (hWb : ∀ a ∈ W, a < 18446744073709551616) (hvb : ∀ a ∈ v, a < 18446744073709551616) (hqb : q < 18446744073709551616)
    (h0 : 0 < val v) (h1 : val W / val v ≤ q) (hc : (subVs W (kdP v q) 0).2 = 0) :
    q = val W / val v ∧ (subVs W (kdP v q) 0).1 = (subVs W (kdP v q) 0).1.take n ++ [0] ∧ val ((subVs W (kdP v q) 0).1.take n) = val W % val v := by
  have hl := subVs_length W (kdP v q) 0 (by rw [hW, kdP_length, hv])
  have e := subVs_val W (kdP v q) 0 (by rw [hW, kdP_length, hv]) hWb (kdP_lt hvb hqb) (by omega)
  rw [hc, kdP_val] at e
  generalize (subVs W (kdP v q) 0).1 = D at *
  have hq : q = val W / val v := by
    have : q ≤ val W / val v := by rw [Nat.le_div_iff_mul_le h0, Nat.mul_comm]; omega
    omega
  have hd := Nat.div_add_mod (val W) (val v)
  rw [← hq] at hd
  have hm := Nat.mod_lt (val W) h0
  have hvl := val_lt hvb
  rw [hv] at hvl
  have hD : val D = val W % val v := by omega
  obtain ⟨t1, t2⟩ := top_zero (n := n) (by rw [hl, hW]) (by omega)
  exact ⟨hq, t1, by rw [t2, hD]⟩

/-- a borrow: the digit is one too great; the divisor, added back, puts it right -/
theorem kd_back {v W : List Nat} {n q : Nat} (hW : W.length = n + 1) (hv : v.length = n) (hWb : ∀ a ∈ W, a < 18446744073709551616) (hvb : ∀ a ∈ v, a < 18446744073709551616) (hqb : q < 18446744073709551616)
    (h0 : 0 < val v) (h2 : q ≤ val W / val v + 1) (hc : (subVs W (kdP v q) 0).2 = 1) :
    q = val W / val v + 1 ∧ val (addVs ((subVs W (kdP v q) 0).1.take n) v 0).1 = val W % val v ∧
      ((subVs W (kdP v q) 0).1.getD n 0 + (addVs ((subVs W (kdP v q) 0).1.take n) v 0).2) % 18446744073709551616 = 0 := by
  have hl := subVs_length W (kdP v q) 0 (by rw [hW, kdP_length, hv])
  have hDb := subVs_lt W (kdP v q) 0
  have e := subVs_val W (kdP v q) 0 (by rw [hW, kdP_length, hv]) hWb (kdP_lt hvb hqb) (by omega)
  rw [hc, kdP_val] at e
  generalize (subVs W (kdP v q) 0).1 = D at *
  obtain ⟨hs, hsl⟩ := last_split (show D.length = n + 1 by rw [hl, hW])
  have hDv := val_lt hDb
  rw [hl, hW] at hDv
  rw [hW] at e
  have hq : q = val W / val v + 1 := by
    rcases Nat.lt_or_ge q (val W / val v + 1) with h | h
    · exfalso
      have h3 : q * val v ≤ val W := by
        rw [← Nat.le_div_iff_mul_le h0]; omega
      rw [Nat.mul_comm] at h3
      omega
    · omega
  have hd := Nat.div_add_mod (val W) (val v)
  have hm := Nat.mod_lt (val W) h0
  have hvl := val_lt hvb
  rw [hv] at hvl
  have ea := addVs_val (D.take n) v 0 (by rw [hsl, hv])
  have hal := addVs_lt (D.take n) v 0
  have hall := addVs_length (D.take n) v 0 (by rw [hsl, hv])
  rw [hsl] at hall ea
  have hSv := val_lt hal
  rw [hall] at hSv
  have hDs : val D = val (D.take n) + wpow n * D.getD n 0 := by
    have := val_snoc (D.take n) (D.getD n 0)
    rw [← hs, hsl] at this; exact this
  have hDn : D.getD n 0 < 18446744073709551616 := getD_lt hDb pos64 n
  generalize (addVs (D.take n) v 0).1 = S at *
  generalize hc2 : (addVs (D.take n) v 0).2 = c2 at *
  have hc1 : c2 ≤ 1 := by rw [← hc2]; exact addVs_carry _ _ _ (fun a ha => hDb a (List.mem_of_mem_take ha)) hvb (by omega)
  generalize D.getD n 0 = t at *
  generalize val (D.take n) = d at *
  have hw := wpow_succ n
  have hsum : val S + wpow n * (c2 + t) = wpow n * 18446744073709551616 + val W % val v := by
    rw [Nat.mul_add]
    have : val v * q = val v * (val W / val v) + val v := by rw [hq, Nat.mul_add, Nat.mul_one]
    rw [Nat.mul_comm (wpow n) 18446744073709551616, ← hw]
    omega
  generalize val W % val v = r at *
  have hp := wpow_pos n
  have hct : c2 + t = 18446744073709551616 := by
    rcases Nat.lt_trichotomy (c2 + t) 18446744073709551616 with h | h | h
    · have : wpow n * (c2 + t + 1) ≤ wpow n * 18446744073709551616 := Nat.mul_le_mul_left _ h
      rw [Nat.mul_add, Nat.mul_one] at this
      omega
    · exact h
    · have : wpow n * (18446744073709551616 + 1) ≤ wpow n * (c2 + t) := Nat.mul_le_mul_left _ h
      rw [Nat.mul_add, Nat.mul_one] at this
      omega
  refine ⟨hq, ?_, ?_⟩
  · rw [hct] at hsum; omega
  · rw [Nat.add_comm, hct]

/-- one digit more of the quotient -/
theorem kd_next {x Q V : Nat} {R Qs : List Nat} (_hR : R.length = Qs.length ∨ True) (h : val (x :: R) / V = Q) (U' : Nat) (hU : U' = val Qs * V + val R) :
    x + 18446744073709551616 * U' = val (Q :: Qs) * V + val (x :: R) % V := by
  subst hU
  have hd := Nat.div_add_mod (val (x :: R)) V
  rw [h] at hd
  simp only [val] at *
  rw [Nat.add_mul, Nat.mul_add, Nat.mul_assoc]
  rw [Nat.mul_comm V Q] at hd
  omega

end Go.Proofs.YtllencgncinphaaGreatDoor
