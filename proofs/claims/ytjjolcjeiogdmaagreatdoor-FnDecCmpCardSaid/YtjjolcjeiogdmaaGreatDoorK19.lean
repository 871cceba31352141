/- Int.Set of signed integers; the thin package: made, dec. -/
import Derived.Laws.FloatArith
import Derived.Laws.Externs
import Derived.Laws.Cover2
import Derived.Test.YtjjolcjeiogdmaaGreatDoorK1
import Derived.Test.YtjjolcjeiogdmaaGreatDoorK18
namespace Go.Proofs.YtjjolcjeiogdmaaGreatDoor
open Go.RowKit

set_option maxRecDepth 20000 in
set_option maxHeartbeats 2000000 in
theorem made_any (z e : Int) (w : World) (hz : (wdig z).length ≤ 300) (he : -400 ≤ e ∧ e ≤ 400) (hNG : NG ≤ w.heap.size) :
    Calls Tryz.prog 21 #[.agg #[.string (bstr (wdig z)), .int .i64 e]] w (fun r w' => ∃ b v, r = .returned (.tuple #[sd b e, .bool true]) ∧ ZI w' b v z ∧ w.heap.size ≤ b ∧ (∀ k, v.ownBlock = some k → w.heap.size ≤ k) ∧ Fresh w w') := by
  have hw := fun W (hW : Fresh w W) => whole_any z W hz (Nat.le_trans hNG hW.size)
  have hpl := fun W => places_any e W he
  have hmk := fun b W => ZzMake_any b e W
  have hwr : IntKind.i32.wrap e = e := by rw [IntKind.wrap_i32]; omega
  obtain ⟨g, hg⟩ : ∃ g, g = w.heap.size := ⟨_, rfl⟩
  generalize bstr (wdig z) = s at *
  have bx := boxes2 w #[.string s, .int .i64 e] #[.pointer none, .int .i32 0] 23 49 g hg
  have H_bx := Lib.hid bx; clear bx
  have H_hw := Lib.hid hw; clear hw
  have H_hpl := Lib.hid hpl; clear hpl
  have H_hmk := Lib.hid hmk; clear hmk
  have H_hz := Lib.hid hz; clear hz
  have H_hNG := Lib.hid hNG; clear hNG
  go_enter Tryz.func21, Tryz.ntmps21
  go_wp2_with (fail)
  generalize hw1 : (w.alloc _).alloc _ = w1
  rw [← hg]
  obtain ⟨b1, b2, hf⟩ := H_bx.out w1 hw1
  have k0 := row_cell b1 0
  have k1 := row_cell b1 1
  simp at k0 k1
  have H_b1 := Lib.hid b1; clear b1
  have H_b2 := Lib.hid b2; clear b2
  have H_hf := Lib.hid hf; clear hf
  have H_hw1 := Lib.hid hw1; clear hw1
  have H_hg := Lib.hid hg; clear hg
  go_wp2_with (fail)
  refine (H_hw.out _ H_hf.out).mono ?_
  rintro r w2 ⟨b, v, rfl, z2, g2, o2, f2⟩
  have d1 := row_fresh H_b1.out f2
  clear k0 k1
  have k0 := row_cell d1 0
  have k1 := row_cell d1 1
  simp at k0 k1
  have H_z2 := Lib.hid z2; clear z2
  have H_g2 := Lib.hid g2; clear g2
  have H_o2 := Lib.hid o2; clear o2
  have H_f2 := Lib.hid f2; clear f2
  have H_d1 := Lib.hid d1; clear d1
  go_wp2_with (fail)
  refine (H_hpl.out _).mono ?_
  rintro r w3 ⟨rfl, hw3⟩
  obtain rfl : w2 = w3 := hw3.symm
  go_wp2_with (fail)
  refine (H_hmk.out b _).mono ?_
  rintro r w4 ⟨rfl, f4⟩
  have d2 := row_fresh H_b2.out (fresh_trans H_f2.out f4)
  have p0 := row_cell d2 0
  have p1 := row_cell d2 1
  simp at p0 p1
  have q0 : w4.frozen? ⟨g + 1, 0, none⟩ = false := frozen_of_row _ _ _ _ _ d2
  have q1 : w4.frozen? ⟨g + 1, 1, none⟩ = false := frozen_of_row _ _ _ _ _ d2
  have H_f4 := Lib.hid f4; clear f4
  have H_d2 := Lib.hid d2; clear d2
  go_wp2_with (fail)
  refine bodyPost_ret (results_cell_tmp_row rfl _ _ (g + 1) 49 #[.pointer (some ⟨b, 0, none⟩), .int .i32 e] (0, 0) _ rfl (row_set (row_set H_d2.out)) Tryz.underlying49 rfl (by kernel_rfl)) rfl ?_
  have hgw := H_hg.out
  have h1s := H_hf.out.size
  have hlt2 := lt_of_row H_b2.out
  have kk : ∀ u u', Keep (fun k => k = g + 1) w4 ((w4.setCell ⟨g + 1, 0, none⟩ u).setCell ⟨g + 1, 1, none⟩ u') := fun u u' => ((Keep.refl (fun k => k = g + 1) w4).setCell (p := ⟨g + 1, 0, none⟩) (fun _ => rfl) u).setCell (p := ⟨g + 1, 1, none⟩) (fun _ => rfl) u'
  exact ⟨b, v, rfl, (H_z2.out.fresh H_f4.out).keep (kk _ _) (fun h => by have := H_g2.out; omega) (fun k hk h => by have := H_o2.out k hk; omega), Nat.le_trans h1s H_g2.out, fun k hk => Nat.le_trans h1s (H_o2.out k hk),
    ((fresh_trans H_hf.out (fresh_trans H_f2.out H_f4.out)).setCell (p := ⟨g + 1, 0, none⟩) (fun h => by change g + 1 < w.heap.size at h; omega) _).setCell (p := ⟨g + 1, 1, none⟩) (fun h => by change g + 1 < w.heap.size at h; omega) _⟩

set_option maxRecDepth 20000 in
set_option maxHeartbeats 2000000 in
theorem dec_any (b : Nat) (v : Value) (z e : Int) (p : Nat) (w : World) (he : -2147483648 ≤ e ∧ e ≤ 2147483647) (hx : ZI w b v z) (hp : p ≤ 600) (hz : z.natAbs < 10 ^ p) :
    Calls Tryz.prog 33 #[sd b e] w (fun r w' => r = .returned (.agg #[.string (bstr (wdig z)), .int .i64 e]) ∧ Fresh w w') := by
  have hdg := fun W (hW : Fresh w W) => digits_any b v z p W (hx.fresh hW) hp hz
  have hzv := fun W => ZzValue_any b e W
  have hex := fun W => Exponent_any b e W
  have hwr : IntKind.i64.wrap e = e := by rw [IntKind.wrap_i64]; omega
  obtain ⟨g, hg⟩ : ∃ g, g = w.heap.size := ⟨_, rfl⟩
  generalize bstr (wdig z) = s at *
  have bx := boxes2 w #[.pointer (some ⟨b, 0, none⟩), .int .i32 e] #[.string ⟨#[]⟩, .int .i64 0] 49 23 g hg
  have H_bx := Lib.hid bx; clear bx
  have H_hdg := Lib.hid hdg; clear hdg
  have H_hzv := Lib.hid hzv; clear hzv
  have H_hex := Lib.hid hex; clear hex
  have H_hx := Lib.hid hx; clear hx
  have H_hz := Lib.hid hz; clear hz
  have H_he := Lib.hid he; clear he
  go_enter Tryz.func33, Tryz.ntmps33
  go_wp2_with (fail)
  generalize hw1 : (w.alloc _).alloc _ = w1
  rw [← hg]
  obtain ⟨b1, b2, hf⟩ := H_bx.out w1 hw1
  have k0 := row_cell b1 0
  have k1 := row_cell b1 1
  simp at k0 k1
  have H_b1 := Lib.hid b1; clear b1
  have H_b2 := Lib.hid b2; clear b2
  have H_hf := Lib.hid hf; clear hf
  have H_hw1 := Lib.hid hw1; clear hw1
  have H_hg := Lib.hid hg; clear hg
  go_region_held3 (fun (w' : World) => w'.cell? ⟨g, 0, none⟩ = some (.pointer (some ⟨b, 0, none⟩)) ∧ w'.cell? ⟨g, 1, none⟩ = some (.int .i32 e)) (first | exact ⟨k0, k1⟩ | exact ⟨m0, m1⟩ | exact ⟨n0, n1⟩ | exact ⟨o0, o1⟩ | exact ⟨(cell?_setCell_ne (.inl (by simp))).trans ((cell?_setCell_ne (.inl (by simp))).trans o0), (cell?_setCell_ne (.inl (by simp))).trans ((cell?_setCell_ne (.inl (by simp))).trans o1)⟩) (first
    | (go_at_call 56; (with_reducible refine (H_hzv.out _).mono ?_); rintro r w2 ⟨rfl, y⟩; have hf2 : Fresh w1 w2 := (by first | exact y | exact y.of_drew | exact y.of_drewN); have m0 := cell_fresh k0 hf2; have m1 := cell_fresh k1 hf2; have H_hf2 := Lib.hid hf2; clear y hf2)
    | (go_at_call 55; (with_reducible refine (H_hdg.out _ (fresh_trans H_hf.out H_hf2.out)).mono ?_); rintro r w3 ⟨rfl, y⟩; have n0 := cell_fresh m0 y; have n1 := cell_fresh m1 y; have hf3 := fresh_trans H_hf2.out y; have H_hf3 := Lib.hid hf3; clear y hf3)
    | (go_at_call 57; (with_reducible refine (H_hex.out _).mono ?_); rintro r w4 ⟨rfl, y⟩; have o0 := cell_fresh n0 y; have o1 := cell_fresh n1 y; have hf4 := fresh_trans H_hf3.out y; have b3 := row_fresh H_b2.out hf4; have p0 := row_cell b3 0; have p1 := row_cell b3 1; simp at p0 p1; have q0 : w4.frozen? ⟨g + 1, 0, none⟩ = false := frozen_of_row _ _ _ _ _ b3; have q1 : w4.frozen? ⟨g + 1, 1, none⟩ = false := frozen_of_row _ _ _ _ _ b3; have H_hf4 := Lib.hid hf4; have H_b3 := Lib.hid b3; clear y hf4 b3))
  go_wp2
  refine bodyPost_ret (results_cell_row rfl _ _ (g + 1) 23 #[.string s, .int .i64 e] (0, 0) _ rfl (row_set (row_set H_b3.out)) Tryz.underlying23 rfl (by kernel_rfl)) rfl ?_
  have hgw := H_hg.out
  exact ⟨rfl, ((fresh_trans H_hf.out H_hf4.out).setCell (p := ⟨g + 1, 0, none⟩) (fun h => by change g + 1 < w.heap.size at h; omega) _).setCell (p := ⟨g + 1, 1, none⟩) (fun h => by change g + 1 < w.heap.size at h; omega) _⟩

end Go.Proofs.YtjjolcjeiogdmaaGreatDoor

/- math.Abs, and the difference of two exponents as floats. -/
namespace Go.Proofs.YtjjolcjeiogdmaaGreatDoor
open Go.RowKit Ieee

/-- the bits of a float without its sign -/
def fabs (b : Nat) : Nat := (bits BinOp.andNot IntKind.u64 (b : Int) 9223372036854775808).toNat

/-- what a small whole number reads as -/
def fnum (a : Int) : Datum := if a = 0 then .number false 0 (-1074) else .number (decide (a < 0)) (a.natAbs * 2 ^ (52 - a.natAbs.log2)) ((a.natAbs.log2 : Int) - 52)

theorem fread_all : ((List.range 801).all fun i => decide (double.read (floatOfInt .f64 ((i : Int) - 400)) = fnum ((i : Int) - 400))) = true := by decide +kernel

theorem fread {a : Int} (h : -400 ≤ a ∧ a ≤ 400) : double.read (floatOfInt .f64 a) = fnum a := by
  have h0 := fread_all
  rw [List.all_eq_true] at h0
  have h1 := h0 (a + 400).toNat (List.mem_range.2 (by omega))
  rw [show (((a + 400).toNat : Nat) : Int) - 400 = a by omega, decide_eq_true_eq] at h1
  exact h1

theorem fback_all : ((List.range 801).all fun d => (floatToIntVal .f64 (fabs (double.nearest false d 0)) .i64 == some (d : Int)) && (floatToIntVal .f64 (fabs (double.nearest true d 0)) .i64 == some (d : Int))) = true := by decide +kernel

theorem fback {d : Nat} (neg : Bool) (h : d ≤ 800) : floatToIntVal .f64 (fabs (double.nearest neg d 0)) .i64 = some (d : Int) := by
  have h0 := fback_all
  rw [List.all_eq_true] at h0
  have h1 := h0 d (List.mem_range.2 (by omega))
  rw [Bool.and_eq_true, beq_iff_eq, beq_iff_eq] at h1
  cases neg
  · exact h1.1
  · exact h1.2

theorem fcut_exact {m : Nat} (neg : Bool) (j : Nat) (hm : 0 < m) : Toward.even.cut neg (m * 2 ^ j) j = m := by
  have hlog : j ≤ (m * 2 ^ j).log2 := by
    rw [Nat.le_log2 (Nat.ne_of_gt (Nat.mul_pos hm (Nat.two_pow_pos j)))]
    exact Nat.le_mul_of_pos_left _ hm
  unfold Toward.cut
  rw [Nat.min_eq_left (by omega)]
  simp only [Nat.shiftLeft_eq, Nat.one_mul]
  rw [Nat.mul_div_cancel _ (Nat.two_pow_pos j), Nat.mul_mod_left]
  have := Nat.two_pow_pos j
  simp

theorem fcut_zero (neg : Bool) (n : Nat) : Toward.even.cut neg n 0 = n := by
  unfold Toward.cut
  simp [Nat.mod_one]

theorem flog {d : Nat} (K : Nat) (hd : 0 < d) : (d * 2 ^ K).log2 = d.log2 + K := by
  have h1 := Nat.log2_self_le (Nat.ne_of_gt hd)
  have h2 := @Nat.lt_log2_self d
  apply Nat.le_antisymm
  · have : (d * 2 ^ K) < 2 ^ (d.log2 + K + 1) := by
      rw [show d.log2 + K + 1 = (d.log2 + 1) + K by omega, Nat.pow_add]
      exact Nat.mul_lt_mul_of_pos_right h2 (Nat.two_pow_pos K)
    have := (Nat.log2_lt (Nat.ne_of_gt (Nat.mul_pos hd (Nat.two_pow_pos K)))).2 this
    omega
  · rw [Nat.le_log2 (Nat.ne_of_gt (Nat.mul_pos hd (Nat.two_pow_pos K))), Nat.pow_add]
    exact Nat.mul_le_mul_right _ h1

theorem fnearest_scale (neg : Bool) {d : Nat} (K : Nat) (hd : 0 < d) (hL : d.log2 ≤ 52) : double.nearest neg (d * 2 ^ K) (-(K : Int)) = double.nearest neg d 0 := by
  have hp := Nat.two_pow_pos K
  unfold Format.nearest
  rw [if_neg (Nat.ne_of_gt (Nat.mul_pos hd hp)), if_neg (Nat.ne_of_gt hd), flog K hd]
  have hlp : double.leastPlace = -1074 := by decide
  have hfb : double.fractionBits = 52 := rfl
  rw [hlp, hfb]
  generalize d.log2 = L at *
  have e1 : max (-(K : Int) + ((L + K : Nat) : Int) - (52 : Nat)) (-1074) = (L : Int) - 52 := by omega
  have e2 : max ((0 : Int) + (L : Int) - (52 : Nat)) (-1074) = (L : Int) - 52 := by omega
  simp only [e1, e2]
  have k2 : Toward.even.cut neg (d <<< ((0 : Int) - ((L : Int) - 52)).toNat) (((L : Int) - 52) - 0).toNat = d * 2 ^ (52 - L) := by
    rw [show (((L : Int) - 52) - 0).toNat = 0 by omega, fcut_zero, Nat.shiftLeft_eq, show ((0 : Int) - ((L : Int) - 52)).toNat = 52 - L by omega]
  have k1 : Toward.even.cut neg ((d * 2 ^ K) <<< (-(K : Int) - ((L : Int) - 52)).toNat) (((L : Int) - 52) - -(K : Int)).toNat = d * 2 ^ (52 - L) := by
    rcases Nat.le_total K (52 - L) with h | h
    · rw [show (((L : Int) - 52) - -(K : Int)).toNat = 0 by omega, fcut_zero, Nat.shiftLeft_eq, show (-(K : Int) - ((L : Int) - 52)).toNat = 52 - L - K by omega, Nat.mul_assoc, ← Nat.pow_add, show K + (52 - L - K) = 52 - L by omega]
    · obtain ⟨j, hj⟩ : ∃ j, K = (52 - L) + j := ⟨K - (52 - L), by omega⟩
      rw [show (((L : Int) - 52) - -(K : Int)).toNat = j by omega, Nat.shiftLeft_eq, show (-(K : Int) - ((L : Int) - 52)).toNat = 0 by omega, Nat.pow_zero, Nat.mul_one, hj, Nat.pow_add, ← Nat.mul_assoc, fcut_exact _ _ (Nat.mul_pos hd (Nat.two_pow_pos _))]
  rw [k1, k2]

/-- the shift of the datum of a small number -/
theorem fnum_eq {a : Int} (ha : -400 ≤ a ∧ a ≤ 400) : ∃ s m i, fnum a = .number s m i ∧ -1074 ≤ i ∧ i ≤ 0 ∧ (∀ K : Nat, -(K : Int) ≤ i → signed s m (i + K).toNat = a * 2 ^ K ∧ signed (!s) m (i + K).toNat = -(a * 2 ^ K)) ∧ (a = 0 → s = false) ∧ (a ≠ 0 → (s = true ↔ a < 0)) := by
  unfold fnum
  by_cases h0 : a = 0
  · subst h0
    rw [if_pos rfl]
    refine ⟨false, 0, -1074, rfl, by omega, by omega, fun K _ => by simp [signed], fun _ => rfl, fun h => absurd rfl h⟩
  · rw [if_neg h0]
    have hL : a.natAbs.log2 ≤ 8 := by
      have : a.natAbs.log2 < 9 := (Nat.log2_lt (by omega)).2 (by omega)
      omega
    generalize a.natAbs.log2 = L at *
    refine ⟨decide (a < 0), a.natAbs * 2 ^ (52 - L), (L : Int) - 52, rfl, by omega, by omega, fun K hK => ?_, fun h => absurd h h0, fun _ => by simp⟩
    have e : (a.natAbs * 2 ^ (52 - L)) <<< ((L : Int) - 52 + K).toNat = a.natAbs * 2 ^ K := by
      rw [Nat.shiftLeft_eq, Nat.mul_assoc, ← Nat.pow_add, show 52 - L + ((L : Int) - 52 + K).toNat = K by omega]
    unfold signed
    rw [e]
    have e2 : ((a.natAbs * 2 ^ K : Nat) : Int) = (a.natAbs : Int) * 2 ^ K := by push_cast; rfl
    rw [e2]
    by_cases hn : a < 0
    · have h3 : (a.natAbs : Int) = -a := by omega
      rw [h3]
      simp [hn, Int.neg_mul]
    · have h3 : (a.natAbs : Int) = a := by omega
      rw [h3]
      simp [hn]

/-- a difference of small whole numbers by way of floats -/
theorem fdiff_ok {a b : Int} (ha : -400 ≤ a ∧ a ≤ 400) (hb : -400 ≤ b ∧ b ≤ 400) : ∃ r, floatBits .sub .f64 (floatOfInt .f64 a) (floatOfInt .f64 b) = some r ∧ floatToIntVal .f64 (fabs r) .i64 = some (((a - b).natAbs : Nat) : Int) := by
  obtain ⟨s, m, i, e1, i1, i2, h1, h1z, h1s⟩ := fnum_eq ha
  obtain ⟨t, n, j, e2, j1, j2, h2, h2z, h2s⟩ := fnum_eq hb
  obtain ⟨K, hK⟩ : ∃ K : Nat, min i j = -(K : Int) := ⟨(-(min i j)).toNat, by omega⟩
  have g1 := (h1 K (by omega)).1
  have g2 := (h2 K (by omega)).2
  have hpK : (0 : Int) < 2 ^ K := Int.pow_pos (by omega)
  have ht : a * 2 ^ K + -(b * 2 ^ K) = (a - b) * 2 ^ K := by rw [Int.sub_mul, Int.sub_eq_add_neg]
  have hsum : floatBits .sub .f64 (floatOfInt .f64 a) (floatOfInt .f64 b) = some (double.nearest (if (a - b) * 2 ^ K = 0 then s && !t else decide ((a - b) * 2 ^ K < 0)) ((a - b) * 2 ^ K).natAbs (-(K : Int))) := by
    unfold floatBits
    show Ieee.Format.sub double _ _ = _
    unfold Ieee.Format.sub
    rw [fread ha, fread hb, e1, e2]
    simp only [Datum.opposite, Datum.sum, Option.map_some, hK, Int.sub_neg, g1, g2, ht, Ieee.Format.write]
  refine ⟨_, hsum, ?_⟩
  have habs : ((a - b) * 2 ^ K).natAbs = (a - b).natAbs * 2 ^ K := by rw [Int.natAbs_mul, Int.natAbs_pow]; rfl
  rw [habs]
  by_cases hd : a - b = 0
  · rw [hd]
    simp only [Int.zero_mul, if_true, Int.natAbs_zero, Nat.zero_mul]
    have hnz : ∀ neg, double.nearest neg 0 (-(K : Int)) = double.nearest neg 0 0 := fun neg => by unfold Ieee.Format.nearest; rw [if_pos rfl, if_pos rfl]
    rw [hnz]
    exact fback _ (by omega)
  · have hdp : 0 < (a - b).natAbs := by omega
    rw [fnearest_scale _ K hdp (by have : (a - b).natAbs.log2 < 10 := (Nat.log2_lt (by omega)).2 (by omega); omega)]
    exact fback _ (by omega)

theorem run_f64bits (b : Nat) (w : World) : (callFunc 93 #[.float .f64 b]).run Tryz.prog w = .ok (.value (.int .u64 b)) w := by
  rw [run_callFunc_extern (e := Extern.MathFloatBits.float64bits) Tryz.func93 (by kernel_rfl) rfl (by kernel_rfl) (by kernel_rfl)]
  rfl

theorem run_f64frombits (n : Int) (w : World) : (callFunc 92 #[.int .u64 n]).run Tryz.prog w = .ok (.value (.float .f64 n.toNat)) w := by
  rw [run_callFunc_extern (e := Extern.MathFloatBits.float64frombits) Tryz.func92 (by kernel_rfl) rfl (by kernel_rfl) (by kernel_rfl)]
  rfl

theorem Abs_any (b : Nat) (w : World) : Calls Tryz.prog 80 #[.float .f64 b] w (fun e w' => e = .returned (.float .f64 (fabs b)) ∧ w' = w) := by
  have h1 := run_f64bits b w
  have h2 := run_f64frombits (bits BinOp.andNot IntKind.u64 (b : Int) 9223372036854775808) w
  go_enter Tryz.func80, Tryz.ntmps80
  go_wp2
  go_ret
  exact ⟨rfl, rfl⟩

end Go.Proofs.YtjjolcjeiogdmaaGreatDoor

/- shopspring: rescale to a smaller exponent: the coefficient times a power of ten. -/
namespace Go.Proofs.YtjjolcjeiogdmaaGreatDoor
open Go.RowKit

set_option maxRecDepth 20000 in
set_option maxHeartbeats 2000000 in
theorem rescale_lt (b : Nat) (v : Value) (z e e' : Int) (w : World) (hG : Glob w) (hz : z.natAbs < wpow 30) (hx : ZI w b v z) (he : -400 ≤ e ∧ e ≤ 400) (he' : -400 ≤ e' ∧ e' ≤ 400) (hlt : e' < e) (hd : e - e' ≤ 127) :
    Calls Tryz.prog 54 #[sd b e, .int .i32 e'] w (fun r w' => ∃ b' v', r = .returned (sd b' e') ∧ ZI w' b' v' (z * ((10 ^ (e - e').toNat : Nat) : Int)) ∧ w.heap.size ≤ b' ∧ (∀ k, v'.ownBlock = some k → w.heap.size ≤ k) ∧ Fresh w w') := by
  obtain ⟨r, hr1, hr2⟩ := fdiff_ok he' he
  have hna : (((e' - e).natAbs : Nat) : Int) = (((e - e').toNat : Nat) : Int) := by omega
  rw [hna] at hr2
  obtain ⟨n, hn⟩ : ∃ n, n = (e - e').toNat := ⟨_, rfl⟩
  rw [← hn] at hr2
  rw [← hn]
  have hn127 : n ≤ 127 := by omega
  have hsub : ∀ W, (binOp .sub 103 (.float .f64 (floatOfInt .f64 e')) (.float .f64 (floatOfInt .f64 e))).run Tryz.prog W = .ok (.float .f64 r) W := fun W => run_float_arith W .sub 103 .f64 _ _ r hr1
  have hcv : ∀ W, (convert 103 2 (.float .f64 (fabs r))).run Tryz.prog W = .ok (.int .i64 n) W := fun W => run_convert_float_int W 103 2 .f64 .i64 (fabs r) n (by rw [Tryz.underlying103]; rfl) Tryz.underlying2 hr2
  have hab := fun W => Abs_any r W
  have hgv := fun W => getValue_any b e W
  have hpw := fun W (hW : Fresh w W) => pow10_any n W (hG.fresh hW) hn127
  have t1 : (e == e') = false := by rw [beq_eq_false_iff_ne]; omega
  have t2 : decide (e < e') = false := by simp; omega
  have t3 : ¬ e = e' := by omega
  have t4 : ¬ e < e' := by omega
  obtain ⟨g, hg⟩ : ∃ g, g = w.heap.size := ⟨_, rfl⟩
  have bx := boxes2 w #[.pointer (some ⟨b, 0, none⟩), .int .i32 e] #[.pointer none, .int .i32 0] 49 49 g hg
  have H_bx := Lib.hid bx; clear bx
  have H_hab := Lib.hid hab; clear hab
  have H_hgv := Lib.hid hgv; clear hgv
  have H_hpw := Lib.hid hpw; clear hpw
  have H_hsub := Lib.hid hsub; clear hsub
  have H_hcv := Lib.hid hcv; clear hcv
  have H_hx := Lib.hid hx; clear hx
  have H_hG := Lib.hid hG; clear hG
  have H_hz := Lib.hid hz; clear hz
  have H_hn127 := Lib.hid hn127; clear hn127
  have H_hn := Lib.hid hn; clear hn
  have H_he := Lib.hid he; clear he
  have H_he' := Lib.hid he'; clear he'
  have H_hd := Lib.hid hd; clear hd
  have H_hr1 := Lib.hid hr1; clear hr1
  have H_hr2 := Lib.hid hr2; clear hr2
  have H_hna := Lib.hid hna; clear hna
  have H_hlt := Lib.hid hlt; clear hlt
  go_enter Tryz.func54, Tryz.ntmps54
  go_wp2_with (fail)
  generalize hw1 : (w.alloc _).alloc _ = w1
  rw [← hg]
  obtain ⟨b1, b2, hf⟩ := H_bx.out w1 hw1
  have k0 := row_cell b1 0
  have k1 := row_cell b1 1
  simp at k0 k1
  have H_b1 := Lib.hid b1; clear b1
  have H_b2 := Lib.hid b2; clear b2
  have H_hf := Lib.hid hf; clear hf
  have H_hw1 := Lib.hid hw1; clear hw1
  have H_hg := Lib.hid hg; clear hg
  have hsub := H_hsub.out
  go_wp2_with (simp only [hsub])
  clear hsub
  refine (H_hab.out _).mono ?_
  rintro r1 w2 ⟨rfl, hw2⟩
  obtain rfl : w1 = w2 := hw2.symm
  have hnew : ∀ W, W = w1.alloc (.cells #[.bool false, .slice none 0 0] 76 (0, 0)) → ∃ c, c = w1.heap.size ∧ ZI W c (.slice none 0 0) 0 ∧ Fresh w1 W ∧ w.heap.size ≤ c := by
    rintro W rfl
    have h1 := H_hG.out.size
    have h2 := H_hf.out.size
    exact ⟨_, rfl, ZI.new (heap_alloc_new w1 _) (by omega), (Keep.refl _ _).alloc _, h2⟩
  have a0 := fun o => cell_fresh k0 ((Keep.refl (fun _ => False) w1).alloc o)
  have a1 := fun o => cell_fresh k1 ((Keep.refl (fun _ => False) w1).alloc o)
  have H_hnew := Lib.hid hnew; clear hnew
  go_wp2_with (fail)
  clear a0 a1
  generalize hw3 : w1.alloc _ = w3
  obtain ⟨c, hc, zc, fc, gc⟩ := H_hnew.out w3 hw3.symm
  rw [← hc]
  have hc1 : w1.heap.size ≤ c := by omega
  have f0 := fresh_trans H_hf.out fc
  have c0 := cell_fresh k0 fc
  have c1 := cell_fresh k1 fc
  have b3 := row_fresh H_b2.out fc
  clear k0 k1
  have H_hw3 := Lib.hid hw3; clear hw3
  have H_hc := Lib.hid hc; clear hc
  have H_zc := Lib.hid zc; clear zc
  have H_fc := Lib.hid fc; clear fc
  have H_gc := Lib.hid gc; clear gc
  have H_f0 := Lib.hid f0; clear f0
  have H_b3 := Lib.hid b3; clear b3
  have H_hc1 := Lib.hid hc1; clear hc1
  refine (H_hgv.out _).mono ?_
  rintro r1 w4 ⟨rfl, f4⟩
  have hcv := H_hcv.out
  have f5 := fresh_trans H_f0.out f4
  have H_f4 := Lib.hid f4; clear f4
  have H_f5 := Lib.hid f5; clear f5
  go_wp2_with (rw [hcv])
  clear hcv
  refine (H_hpw.out _ H_f5.out).mono ?_
  rintro r1 w5 ⟨bt, vt, rfl, zt, ft, gt, ot⟩
  have f6 := fresh_trans H_f5.out ft
  have f46 := fresh_trans H_f4.out ft
  have hblt := H_hx.out.lt
  have hcw4 := H_zc.out.lt
  have hmul := IntMul_z c b bt (.slice none 0 0) v vt 0 z ((10 ^ n : Nat) : Int) w5 (H_hG.out.fresh f6) (Nat.lt_of_lt_of_le H_hz.out (wpow_mono (by omega))) (ten_wpow39 (by have := H_hn127.out; omega)) (by have h1 := H_f4.out.size; have h2 := H_gc.out; omega) (H_zc.out.fresh f46) (H_hx.out.fresh f6) zt (Sep.nil _) (Sep.nil _)
  have H_hmul := Lib.hid hmul; clear hmul
  have H_f6 := Lib.hid f6; clear f6
  have H_f46 := Lib.hid f46; clear f46
  have H_zt := Lib.hid zt; clear zt
  have H_ft := Lib.hid ft; clear ft
  have H_gt := Lib.hid gt; clear gt
  have H_ot := Lib.hid ot; clear ot
  go_wp2_with (fail)
  refine H_hmul.out.mono ?_
  rintro r1 w6 ⟨rfl, hset⟩
  obtain ⟨v6, z6, f16, o6⟩ := hset.fresh (fresh_trans H_fc.out H_f46.out) H_hc1.out
  have b6 := row_fresh H_b2.out f16
  have d1 := row_fresh H_b1.out f16
  have p0 := row_cell b6 0
  have p1 := row_cell b6 1
  have k0 := row_cell d1 0
  have k1 := row_cell d1 1
  simp at p0 p1 k0 k1
  have q0 : w6.frozen? ⟨g + 1, 0, none⟩ = false := frozen_of_row _ _ _ _ _ b6
  have q1 : w6.frozen? ⟨g + 1, 1, none⟩ = false := frozen_of_row _ _ _ _ _ b6
  clear hset c0 c1
  have H_z6 := Lib.hid z6; clear z6
  have H_f16 := Lib.hid f16; clear f16
  have H_o6 := Lib.hid o6; clear o6
  have H_b6 := Lib.hid b6; clear b6
  have H_d1 := Lib.hid d1; clear d1
  go_wp2_with (fail)
  refine bodyPost_ret (results_cell_row rfl _ _ (g + 1) 49 #[.pointer (some ⟨c, 0, none⟩), .int .i32 e'] (0, 0) _ rfl (row_set (row_set H_b6.out)) Tryz.underlying49 rfl (by kernel_rfl)) rfl ?_
  have hgw := H_hg.out
  have h1s := H_hf.out.size
  have hlt2 := lt_of_row H_b2.out
  have hc1 := H_hc1.out
  have kk : ∀ u u', Keep (fun k => k = g + 1) w6 ((w6.setCell ⟨g + 1, 0, none⟩ u).setCell ⟨g + 1, 1, none⟩ u') := fun u u' => ((Keep.refl (fun k => k = g + 1) w6).setCell (p := ⟨g + 1, 0, none⟩) (fun _ => rfl) u).setCell (p := ⟨g + 1, 1, none⟩) (fun _ => rfl) u'
  exact ⟨c, v6, rfl, H_z6.out.keep (kk _ _) (fun h => by omega) (fun k hk h => by have := H_o6.out k hk; omega), Nat.le_trans h1s hc1, fun k hk => Nat.le_trans h1s (H_o6.out k hk),
    ((fresh_trans H_hf.out H_f16.out).setCell (p := ⟨g + 1, 0, none⟩) (fun h => by change g + 1 < w.heap.size at h; omega) _).setCell (p := ⟨g + 1, 1, none⟩) (fun h => by change g + 1 < w.heap.size at h; omega) _⟩

end Go.Proofs.YtjjolcjeiogdmaaGreatDoor
