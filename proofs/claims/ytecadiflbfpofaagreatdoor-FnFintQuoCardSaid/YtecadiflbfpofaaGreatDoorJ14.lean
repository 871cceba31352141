/- The contracts of govalues' whole numbers of 64 bits: mul, lsh; getters of two decimals. -/
import Derived.Test.YtecadiflbfpofaaGreatDoorJ5
import Derived.Test.YtecadiflbfpofaaGreatDoorJ11
import Derived.Test.YtecadiflbfpofaaGreatDoorJ12
namespace Go.Proofs.YtecadiflbfpofaaGreatDoor
open Go.RowKit

theorem wrap_u64n (n : Nat) (h : n < 18446744073709551616) : IntKind.u64.wrap (n : Int) = (n : Int) := by
  simp [IntKind.wrap, IntKind.bits, IntKind.signed]; omega

/-- a product or what is told when there is no room for it -/
def mulTo (n : Nat) : Value := if n ≤ 9999999999999999999 then .tuple #[.int .u64 n, .bool true] else .tuple #[.int .u64 0, .bool false]

theorem mulTo_cases (n : Nat) : mulTo n = .tuple #[.int .u64 n, .bool true] ∨ mulTo n = .tuple #[.int .u64 0, .bool false] := by
  unfold mulTo
  split
  · exact .inl rfl
  · exact .inr rfl

set_option maxRecDepth 20000 in
theorem fmul_any (x y : Nat) (w : World) (_hx : x ≤ 9999999999999999999) (hy0 : 0 < y) (hy : y ≤ 10000000000000000000) :
    Calls Tryz.prog 91 #[.int .u64 x, .int .u64 y] w (fun e w' => e = .returned (mulTo (x * y)) ∧ w' = w) := by
  have t0 : ((y : Int) == 0) = false := by rw [beq_eq_false_iff_ne]; omega
  have hyN : ¬ y = 0 := by omega
  obtain ⟨p, hp⟩ : ∃ p, p = x * y := ⟨_, rfl⟩
  obtain ⟨z, hz⟩ : ∃ z, z = p % 18446744073709551616 := ⟨_, rfl⟩
  have hmulI : IntKind.u64.wrap ((x : Int) * (y : Int)) = (z : Int) := by
    have e : (x : Int) * (y : Int) = ((x * y : Nat) : Int) := by simp
    rw [e, ← hp, hz]
    simp [IntKind.wrap, IntKind.bits, IntKind.signed]
  have hdiv : Int.tdiv (z : Int) (y : Int) = ((z / y : Nat) : Int) := by rw [Int.tdiv_eq_ediv_of_nonneg (by omega)]; rfl
  have hdw : IntKind.u64.wrap ((z / y : Nat) : Int) = ((z / y : Nat) : Int) := wrap_u64n _ (by have := Nat.div_le_self z y; omega)
  by_cases hov : p < 18446744073709551616
  · have hzp : z = p := by omega
    have hq : z / y = x := by rw [hzp, hp]; exact Nat.mul_div_cancel _ hy0
    rw [hq] at hdiv hdw
    have t1 : ((x : Int) == (x : Int)) = true := by simp
    rw [← hp]
    by_cases hm : p ≤ 9999999999999999999
    · have hr : mulTo p = .tuple #[.int .u64 z, .bool true] := by unfold mulTo; rw [if_pos hm, hzp]
      rw [hr]
      have hzl : ¬ 9999999999999999999 < z := by omega
      have t2 : decide ((9999999999999999999 : Int) < (z : Int)) = false := by simp; omega
      clear hp hz hov hzp hq hm hr
      go_enter Tryz.func91, Tryz.ntmps91
      go_wp2
      go_ret2
      exact ⟨rfl, rfl⟩
    · have hr : mulTo p = .tuple #[.int .u64 0, .bool false] := by unfold mulTo; rw [if_neg hm]
      rw [hr]
      have hzl : 9999999999999999999 < z := by omega
      have t2 : decide ((9999999999999999999 : Int) < (z : Int)) = true := by simp; omega
      clear hp hz hov hzp hq hm hr
      go_enter Tryz.func91, Tryz.ntmps91
      go_wp2
      go_ret2
      exact ⟨rfl, rfl⟩
  · have hq : z / y ≠ x := by
      intro h
      have h1 : y * (z / y) ≤ z := Nat.mul_div_le _ _
      rw [h, Nat.mul_comm, ← hp] at h1
      omega
    have hr : mulTo p = .tuple #[.int .u64 0, .bool false] := by unfold mulTo; rw [if_neg (by omega)]
    rw [← hp, hr]
    generalize z / y = q at *
    have t1 : ((q : Int) == (x : Int)) = false := by rw [beq_eq_false_iff_ne]; omega
    clear hp hz hov hr
    go_enter Tryz.func91, Tryz.ntmps91
    go_wp2
    go_ret2
    exact ⟨rfl, rfl⟩

theorem flsh_zero (x : Nat) (w : World) : Calls Tryz.prog 83 #[.int .u64 x, .int .i64 0] w (fun e w' => e = .returned (.tuple #[.int .u64 x, .bool true]) ∧ w' = w) := by
  go_enter Tryz.func83, Tryz.ntmps83
  go_wp2
  go_ret2
  exact ⟨rfl, rfl⟩

theorem flsh_one (x : Nat) (w : World) (h : x < 999999999999999999) : Calls Tryz.prog 83 #[.int .u64 x, .int .i64 1] w (fun e w' => e = .returned (mulTo (x * 10)) ∧ w' = w) := by
  have hr : mulTo (x * 10) = .tuple #[.int .u64 ((x : Int) * 10), .bool true] := by unfold mulTo; rw [if_pos (by omega)]; simp
  have t1 : decide ((x : Int) < 999999999999999999) = true := by simp; omega
  rw [hr]
  clear hr
  go_enter Tryz.func83, Tryz.ntmps83
  go_wp2
  go_ret2
  exact ⟨rfl, rfl⟩

set_option maxRecDepth 20000 in
theorem flsh_gen (x k : Nat) (w : World) (hP : Pow10s w) (hx : x ≤ 9999999999999999999) (h0 : 0 < k) (hk : k ≤ 19) (h1 : k = 1 → ¬ x < 999999999999999999) :
    Calls Tryz.prog 83 #[.int .u64 x, .int .i64 k] w (fun e w' => e = .returned (mulTo (x * 10 ^ k)) ∧ w' = w) := by
  have hcl := hP k (by omega)
  have hy0 : 0 < 10 ^ k := Nat.pow_pos (by omega)
  have hyl : 10 ^ k ≤ 10000000000000000000 := by
    have : 10 ^ k ≤ 10 ^ 19 := Nat.pow_le_pow_right (by omega) hk
    omega
  obtain ⟨y, hy⟩ : ∃ y, y = 10 ^ k := ⟨_, rfl⟩
  rw [← hy] at hcl hy0 hyl ⊢
  have t2 : decide ((k : Int) ≤ 0) = false := by simp; omega
  have t3 : decide ((20 : Int) ≤ (k : Int)) = false := by simp; omega
  clear hy
  by_cases hk1 : k = 1
  · subst hk1
    have t4 : decide ((x : Int) < 999999999999999999) = false := by have := h1 rfl; simp; omega
    have hxn := h1 rfl
    have hc := fmul_any x y w hx hy0 hyl
    have H_hP := Lib.hid hP; clear hP
    have H_h1 := Lib.hid h1; clear h1
    generalize x * y = p at hc ⊢
    rcases mulTo_cases p with hr | hr <;> rw [hr] at hc ⊢ <;> clear hr
    · have H_hc := Lib.hid hc
      clear hc
      go_enter Tryz.func83, Tryz.ntmps83
      go_wp2_with (fail)
      refine H_hc.out.mono ?_
      rintro e w1 ⟨rfl, rfl⟩
      go_wp2
      go_ret2
      exact ⟨rfl, rfl⟩
    · have H_hc := Lib.hid hc
      clear hc
      go_enter Tryz.func83, Tryz.ntmps83
      go_wp2_with (fail)
      refine H_hc.out.mono ?_
      rintro e w1 ⟨rfl, rfl⟩
      go_wp2
      go_ret2
      exact ⟨rfl, rfl⟩
  · have t4 : ((k : Int) == 1) = false := by rw [beq_eq_false_iff_ne]; omega
    have hc := fmul_any x y w hx hy0 hyl
    have H_hP := Lib.hid hP; clear hP
    have H_h1 := Lib.hid h1; clear h1
    generalize x * y = p at hc ⊢
    rcases mulTo_cases p with hr | hr <;> rw [hr] at hc ⊢ <;> clear hr
    · have H_hc := Lib.hid hc
      clear hc
      go_enter Tryz.func83, Tryz.ntmps83
      go_wp2_with (fail)
      refine H_hc.out.mono ?_
      rintro e w1 ⟨rfl, rfl⟩
      go_wp2
      go_ret2
      exact ⟨rfl, rfl⟩
    · have H_hc := Lib.hid hc
      clear hc
      go_enter Tryz.func83, Tryz.ntmps83
      go_wp2_with (fail)
      refine H_hc.out.mono ?_
      rintro e w1 ⟨rfl, rfl⟩
      go_wp2
      go_ret2
      exact ⟨rfl, rfl⟩

/-- x times ten to the power of k, for numbers of at most 19 digits -/
theorem flsh_any (x k : Nat) (w : World) (hP : Pow10s w) (hx : x ≤ 9999999999999999999) (hk : k ≤ 19) :
    Calls Tryz.prog 83 #[.int .u64 x, .int .i64 k] w (fun e w' => e = .returned (mulTo (x * 10 ^ k)) ∧ w' = w) := by
  rcases Nat.eq_zero_or_pos k with h0 | h0
  · subst h0
    have hr : mulTo (x * 10 ^ 0) = .tuple #[.int .u64 x, .bool true] := by unfold mulTo; rw [if_pos (by omega)]; simp
    rw [hr]
    exact flsh_zero x w
  · by_cases h1 : k = 1 ∧ x < 999999999999999999
    · obtain ⟨rfl, h1⟩ := h1
      exact flsh_one x w h1
    · exact flsh_gen x k w hP hx h0 hk (fun e h => h1 ⟨e, h⟩)

end Go.Proofs.YtecadiflbfpofaaGreatDoor

/- The contracts of the reference on govalues' decimals: FixIs, Minus, FixDec. -/
namespace Go.Proofs.YtecadiflbfpofaaGreatDoor
open Go.RowKit

/-- are the parts those of a decimal? -/
def fixIs (c : Nat) (s : Int) : Bool := decide (c ≤ 9999999999999999999) && (decide (0 ≤ s) && decide (s ≤ 19))

theorem FixIs_any (neg : Bool) (c : Nat) (s : Int) (w : World) : Calls Tryz.prog 33 #[.agg #[.bool neg, .int .u64 c, .int .i64 s]] w (VRet w (.bool (fixIs c s))) := by
  by_cases h1 : c ≤ 9999999999999999999
  · have t1 : decide ((c : Int) ≤ 9999999999999999999) = true := by simp; omega
    by_cases h2 : 0 ≤ s
    · have t2 : decide ((0 : Int) ≤ s) = true := by simp; omega
      by_cases h3 : s ≤ 19
      · have t3 : decide (s ≤ (19 : Int)) = true := by simp; omega
        have hr : fixIs c s = true := by unfold fixIs; simp; omega
        rw [hr]
        clear hr h1 h2 h3
        go_enter Tryz.func33, Tryz.ntmps33
        go_wp2
        go_ret
        exact ⟨rfl, (Keep.refl _ _).alloc _⟩
      · have t3 : decide (s ≤ (19 : Int)) = false := by simp; omega
        have hr : fixIs c s = false := by unfold fixIs; simp; omega
        rw [hr]
        clear hr h1 h2 h3
        go_enter Tryz.func33, Tryz.ntmps33
        go_wp2
        go_ret
        exact ⟨rfl, (Keep.refl _ _).alloc _⟩
    · have t2 : decide ((0 : Int) ≤ s) = false := by simp; omega
      have hr : fixIs c s = false := by unfold fixIs; simp; omega
      rw [hr]
      clear hr h1 h2
      go_enter Tryz.func33, Tryz.ntmps33
      go_wp2
      go_ret
      exact ⟨rfl, (Keep.refl _ _).alloc _⟩
  · have t1 : decide ((c : Int) ≤ 9999999999999999999) = false := by simp; omega
    have hr : fixIs c s = false := by unfold fixIs; simp; omega
    rw [hr]
    clear hr h1
    go_enter Tryz.func33, Tryz.ntmps33
    go_wp2
    go_ret
    exact ⟨rfl, (Keep.refl _ _).alloc _⟩

end Go.Proofs.YtecadiflbfpofaaGreatDoor

/- The contracts of the reference on govalues' decimals: Minus, FixDec, FixNum. -/
namespace Go.Proofs.YtecadiflbfpofaaGreatDoor
open Go.RowKit

/-- the call returns the decimal number of a decimal -/
def DRet (w : World) (neg : Bool) (c s : Nat) (e : Ending) (w' : World) : Prop :=
  ∃ v l, e = .returned (.agg #[.bool (neg && decide (0 < l.length)), v, .int .i64 (-(s : Int))]) ∧ SNat w' v l ∧ Norm l ∧ sval l = c ∧ Fresh w w'

set_option maxRecDepth 20000 in
set_option maxHeartbeats 2000000 in
theorem FixDec_any (neg : Bool) (c s : Nat) (w : World) (hs : s ≤ 19) (hc : c ≤ 9999999999999999999) :
    Calls Tryz.prog 32 #[fx neg c s] w (DRet w neg c s) := by
  have t1 : IntKind.i64.wrap (-(s : Int)) = -(s : Int) := by rw [IntKind.wrap_i64]; omega
  obtain ⟨g, hg⟩ : ∃ g, g = w.heap.size := ⟨_, rfl⟩
  have bx := boxes2 w #[.bool neg, .int .u64 c, .int .i64 s] #[.bool false, .slice none 0 0, .int .i64 0] 24 58 g hg
  have H_bx := Lib.hid bx; clear bx
  go_enter Tryz.func32, Tryz.ntmps32
  go_wp2_with (fail)
  generalize hw1 : (w.alloc _).alloc _ = w1
  rw [← hg]
  obtain ⟨b1, b2, hf⟩ := H_bx.out w1 hw1
  have k0 := row_cell b1 0
  have k1 := row_cell b1 1
  have k2 := row_cell b1 2
  simp at k0 k1 k2
  have H_b1 := Lib.hid b1; clear b1
  have H_b2 := Lib.hid b2; clear b2
  have H_hf := Lib.hid hf; clear hf
  have H_hw1 := Lib.hid hw1; clear hw1
  have H_hg := Lib.hid hg; clear hg
  go_region_held3 (fun (w' : World) => w'.cell? ⟨g, 0, none⟩ = some (.bool neg) ∧ w'.cell? ⟨g, 1, none⟩ = some (.int .u64 c) ∧ w'.cell? ⟨g, 2, none⟩ = some (.int .i64 s)) (first | exact ⟨k0, k1, k2⟩ | exact ⟨m0, m1, m2⟩ | exact ⟨n0, n1, n2⟩ | exact ⟨far3 (by omega) n0, far3 (by omega) n1, far3 (by omega) n2⟩) (first
    | (go_at_call 21; (with_reducible refine (NatFrom_any c _ (by omega)).mono ?_); rintro e w2 ⟨v, l, rfl, r1, r2, r3, r⟩; obtain ⟨a, cc, rfl⟩ := r1.form; have hf0 : Fresh w1 w2 := (by first | exact r | exact r.of_drew | exact r.of_drewN); have m0 := cell_fresh k0 hf0; have m1 := cell_fresh k1 hf0; have m2 := cell_fresh k2 hf0; have H_r1 := Lib.hid r1; have H_r2 := Lib.hid r2; have H_r3 := Lib.hid r3; have H_hf0 := Lib.hid hf0; clear r1 r2 r3 r hf0)
    | (go_at_call 67; (with_reducible refine (wholeOf_any _ _ _ _ H_r1.out).mono ?_); rintro e w3 ⟨rfl, r⟩; have n0 := cell_fresh m0 r; have n1 := cell_fresh m1 r; have n2 := cell_fresh m2 r; have hfa := fresh_trans H_hf0.out r; have b4 := row_fresh H_b2.out hfa; have p0 := row_cell b4 0; have p1 := row_cell b4 1; have p2 := row_cell b4 2; simp at p0 p1 p2; have q0 : w3.frozen? ⟨g + 1, 0, none⟩ = false := frozen_of_row _ _ _ _ _ b4; have q1 : w3.frozen? ⟨g + 1, 1, none⟩ = false := frozen_of_row _ _ _ _ _ b4; have q2 : w3.frozen? ⟨g + 1, 2, none⟩ = false := frozen_of_row _ _ _ _ _ b4; have H_s1 := Lib.hid (H_r1.out.fresh r); have H_hfa := Lib.hid hfa; have H_b4 := Lib.hid b4; clear hfa b4 r))
  go_wp2
  refine bodyPost_ret (results_cell_row rfl _ _ (g + 1) 58 #[.bool (neg && decide (0 < l.length)), .slice a l.length cc, .int .i64 (-(s : Int))] (0, 0) _ rfl (row_set (row_set (row_set H_b4.out))) Tryz.underlying58 rfl (by kernel_rfl)) rfl ?_
  have f1 := H_s1.out.off p0 (fun n e => by simp at e)
  exact ⟨_, l, rfl, ((H_s1.out.setOff f1).setOff f1).setOff f1, H_r2.out, H_r3.out, (fresh_trans H_hf.out H_hfa.out).set3 (by have := H_hg.out; omega)⟩

theorem DecFrac_any (neg : Bool) (v : Value) (l : List Nat) (s : Nat) (w : World) (h : SNat w v l) (hn : Norm l) (hc : l = [] → neg = false) (hs : s ≤ 1000) (hl : l.length ≤ 1000) :
    Calls Tryz.prog 34 #[.agg #[.bool neg, v, .int .i64 (-(s : Int))]] w (FRet w (sint neg l) (10 ^ s)) := by
  by_cases h0 : s = 0
  · subst h0
    have := DecFrac_pos neg v l 0 w h (by omega) (by omega) (by omega)
    rw [show sint neg l * ((10 ^ 0 : Nat) : Int) = sint neg l by simp] at this
    exact this
  · exact DecFrac_neg neg v l s w h hn hc (by omega) (by omega)

end Go.Proofs.YtecadiflbfpofaaGreatDoor

/- The contracts of the reference on govalues' decimals: FixNum, FixHas. -/
namespace Go.Proofs.YtecadiflbfpofaaGreatDoor
open Go.RowKit

/-- the numerator of a decimal of govalues -/
def zfix (neg : Bool) (c : Nat) : Int := if neg then -(c : Int) else (c : Int)

theorem sint_zfix {neg : Bool} {l : List Nat} {c : Nat} (hn : Norm l) (h : sval l = c) : sint (neg && decide (0 < l.length)) l = zfix neg c := by
  by_cases h0 : 0 < l.length
  · simp [h0, sint, zfix, h]
  · obtain rfl : l = [] := List.eq_nil_of_length_eq_zero (by omega)
    simp [sval] at h
    subst h
    cases neg <;> simp [sint, zfix, sval]

theorem len_of {l : List Nat} {c : Nat} (hn : Norm l) (h : sval l = c) (hc : c ≤ 9999999999999999999) : l.length ≤ 3 :=
  hn.s_len_le (by rw [h]; have : spow 3 = 1000000000000000000000000000 := rfl; omega)

set_option maxRecDepth 20000 in
set_option maxHeartbeats 2000000 in
theorem FixNum_any (neg : Bool) (c s : Nat) (w : World) (hs : s ≤ 19) (hc : c ≤ 9999999999999999999) :
    Calls Tryz.prog 10 #[fx neg c s] w (FRet w (zfix neg c) (10 ^ s)) := by
  obtain ⟨g, hg⟩ : ∃ g, g = w.heap.size := ⟨_, rfl⟩
  have bx := boxes2 w #[.bool neg, .int .u64 c, .int .i64 s] #[.bool false, .slice none 0 0, .slice none 0 0] 24 31 g hg
  have H_bx := Lib.hid bx; clear bx
  go_enter Tryz.func10, Tryz.ntmps10
  go_wp2_with (fail)
  generalize hw1 : (w.alloc _).alloc _ = w1
  rw [← hg]
  obtain ⟨b1, b2, hf⟩ := H_bx.out w1 hw1
  have H_b1 := Lib.hid b1; clear b1
  have H_b2 := Lib.hid b2; clear b2
  have H_hf := Lib.hid hf; clear hf
  have H_hw1 := Lib.hid hw1; clear hw1
  have H_hg := Lib.hid hg; clear hg
  refine (FixDec_any neg c s _ hs hc).mono ?_
  rintro e w2 ⟨v, l, rfl, r1, r2, r3, r4⟩
  obtain ⟨a, cc, rfl⟩ := r1.form
  have hz := sint_zfix (neg := neg) r2 r3
  have hl := len_of r2 r3 hc
  have hcall := DecFrac_any (neg && decide (0 < l.length)) _ l s w2 r1 r2 (by rintro rfl; simp) (by omega) (by omega)
  rw [hz] at hcall
  have H_r1 := Lib.hid r1; clear r1
  have H_r2 := Lib.hid r2; clear r2
  have H_r3 := Lib.hid r3; clear r3
  have H_r4 := Lib.hid r4; clear r4
  have H_hz := Lib.hid hz; clear hz
  have H_hcall := Lib.hid hcall; clear hcall
  generalize hbn : (neg && decide (0 < l.length)) = bn at *
  have H_hbn := Lib.hid hbn
  clear hbn
  go_wp2_with (fail)
  refine H_hcall.out.mono ?_
  rintro e w3 ⟨x, rfl, ⟨n2, v2, l2, dv, dl, rfl, s1, s2, s3, s4, s5, s6, s7⟩, hf3⟩
  obtain ⟨a2, cc2, rfl⟩ := s1.form
  obtain ⟨a3, cc3, rfl⟩ := s5.form
  have hfa := fresh_trans H_r4.out hf3
  have b4 := row_fresh H_b2.out hfa
  have p0 := row_cell b4 0
  have p1 := row_cell b4 1
  have p2 := row_cell b4 2
  simp at p0 p1 p2
  have q0 : w3.frozen? ⟨g + 1, 0, none⟩ = false := frozen_of_row _ _ _ _ _ b4
  have q1 : w3.frozen? ⟨g + 1, 1, none⟩ = false := frozen_of_row _ _ _ _ _ b4
  have q2 : w3.frozen? ⟨g + 1, 2, none⟩ = false := frozen_of_row _ _ _ _ _ b4
  have H_s1 := Lib.hid s1; clear s1
  have H_s2 := Lib.hid s2; clear s2
  have H_s3 := Lib.hid s3; clear s3
  have H_s4 := Lib.hid s4; clear s4
  have H_s5 := Lib.hid s5; clear s5
  have H_s6 := Lib.hid s6; clear s6
  have H_s7 := Lib.hid s7; clear s7
  have H_hf3 := Lib.hid hf3; clear hf3
  have H_hfa := Lib.hid hfa; clear hfa
  have H_b4 := Lib.hid b4; clear b4
  go_wp2_with (fail)
  refine bodyPost_ret (results_cell_row rfl _ _ (g + 1) 31 #[.bool n2, .slice a2 l2.length cc2, .slice a3 dl.length cc3] (0, 0) _ rfl (row_set (row_set (row_set H_b4.out))) Tryz.underlying31 rfl (by kernel_rfl)) rfl ?_
  have f1 := H_s1.out.off p0 (fun n e => by simp at e)
  have f2 := H_s5.out.off p0 (fun n e => by simp at e)
  exact ⟨_, rfl, ⟨n2, _, l2, _, dl, rfl, ((H_s1.out.setOff f1).setOff f1).setOff f1, H_s2.out, H_s3.out, H_s4.out, ((H_s5.out.setOff f2).setOff f2).setOff f2, H_s6.out, H_s7.out⟩, (fresh_trans H_hf.out H_hfa.out).set3 (by have := H_hg.out; omega)⟩

theorem ten_spow {s : Nat} (hs : s ≤ 19) : 10 ^ s < spow 1000 := by
  have h1 : 10 ^ s ≤ 10 ^ 19 := Nat.pow_le_pow_right (by omega) hs
  have h2 := spow_mono (m := 3) (n := 1000) (by omega)
  have h3 : spow 3 = 1000000000000000000000000000 := rfl
  omega

theorem zfix_spow {neg : Bool} {c : Nat} (hc : c ≤ 9999999999999999999) : (zfix neg c).natAbs < spow 1000 := by
  have h1 : (zfix neg c).natAbs = c := by unfold zfix; split <;> simp
  have h2 := spow_mono (m := 3) (n := 1000) (by omega)
  have h3 : spow 3 = 1000000000000000000000000000 := rfl
  rw [h1]; omega

theorem cmpZ_self (a : Int) : cmpZ a a = 0 := by unfold cmpZ; rw [if_neg (by omega), if_neg (by omega)]

set_option maxRecDepth 20000 in
set_option maxHeartbeats 2000000 in
theorem FixHas_f (c s : Nat) (xw : Value) (w : World) (hs : s ≤ 19) (hc : c ≤ 9999999999999999999) (hx : SFr w xw (zfix false c) (10 ^ s)) :
    Calls Tryz.prog 28 #[fx false c s, xw] w (VRet w (.bool true)) := by
  obtain ⟨nb, v2, l2, dv, dl, rfl, s1, s2, s3, s4, s5, s6, s7⟩ := hx
  obtain ⟨a2, cc2, rfl⟩ := s1.form
  obtain ⟨a3, cc3, rfl⟩ := s5.form
  have hx : SFr w (.agg #[.bool nb, .slice a2 l2.length cc2, .slice a3 dl.length cc3]) (zfix false c) (10 ^ s) := ⟨nb, _, l2, _, dl, rfl, s1, s2, s3, s4, s5, s6, s7⟩
  have his : fixIs c s = true := by unfold fixIs; simp; omega
  obtain ⟨g, hg⟩ : ∃ g, g = w.heap.size := ⟨_, rfl⟩
  have bx := boxes2 w #[.bool false, .int .u64 c, .int .i64 s] #[.bool nb, .slice a2 l2.length cc2, .slice a3 dl.length cc3] 24 31 g hg
  clear s1 s2 s3 s4 s5 s6 s7
  have H_bx := Lib.hid bx; clear bx
  have H_hx := Lib.hid hx; clear hx
  have H_his := Lib.hid his; clear his
  go_enter Tryz.func28, Tryz.ntmps28
  go_wp2_with (fail)
  generalize hw1 : (w.alloc _).alloc _ = w1
  rw [← hg]
  obtain ⟨b1, b2, hf⟩ := H_bx.out w1 hw1
  have k0 := row_cell b1 0
  have k1 := row_cell b1 1
  have k2 := row_cell b1 2
  have k3 := row_cell b2 0
  have k4 := row_cell b2 1
  have k5 := row_cell b2 2
  simp at k0 k1 k2 k3 k4 k5
  have H_b1 := Lib.hid b1; clear b1
  have H_b2 := Lib.hid b2; clear b2
  have H_hf := Lib.hid hf; clear hf
  have H_hw1 := Lib.hid hw1; clear hw1
  have H_hg := Lib.hid hg; clear hg
  have hcallIs : ∀ W, Calls Tryz.prog 33 #[fx false c s] W (VRet W (.bool true)) := fun W => by have := FixIs_any false c (s : Int) W; rw [H_his.out] at this; exact this
  have H_hcallIs := Lib.hid hcallIs
  clear hcallIs
  refine wp_region_E (S := (fun (w' : World) => w'.cell? ⟨g, 0, none⟩ = some (.bool false) ∧ w'.cell? ⟨g, 1, none⟩ = some (.int .u64 c) ∧ w'.cell? ⟨g, 2, none⟩ = some (.int .i64 s) ∧ w'.cell? ⟨g + 1, 0, none⟩ = some (.bool nb) ∧ w'.cell? ⟨g + 1, 1, none⟩ = some (.slice a2 l2.length cc2) ∧ w'.cell? ⟨g + 1, 2, none⟩ = some (.slice a3 dl.length cc3))) 19 (by kernel_rfl) (by exact ⟨k0, k1, k2, k3, k4, k5⟩) (fun hHeld => ?_)
  refine wpAnyE_takeL (i := 0) (c := 1) (v := ?v0_1) rfl (by kernel_rfl) (fun _ _ _ h => h) ⟨by rfl, ?y0_1⟩ (by assumption) ?r0_1
  case y0_1 => (intro w hSw; go_split_ands; go_simp; try with_reducible rfl)
  try simp only [Act.put, List.getElem_toArray, List.getElem_cons_zero, List.getElem_cons_succ, List.setIfInBounds_toArray, List.set_cons_zero, List.set_cons_succ]
  refine wpAnyE_one (i := 1) rfl (by kernel_rfl) (fun K hK => ?_)
  go_simp
  refine (H_hcallIs.out _).mono ?_; rintro e w2 ⟨rfl, r⟩; have hf0 : Fresh w1 w2 := r.of_drew; have m0 := cell_fresh k0 hf0; have m1 := cell_fresh k1 hf0; have m2 := cell_fresh k2 hf0; have m3 := cell_fresh k3 hf0; have m4 := cell_fresh k4 hf0; have m5 := cell_fresh k5 hf0; have H_hf0 := Lib.hid hf0; clear r hf0
  go_wp2_with (fail)
  have hHeld1 : ((fun (w' : World) => w'.cell? ⟨g, 0, none⟩ = some (.bool false) ∧ w'.cell? ⟨g, 1, none⟩ = some (.int .u64 c) ∧ w'.cell? ⟨g, 2, none⟩ = some (.int .i64 s) ∧ w'.cell? ⟨g + 1, 0, none⟩ = some (.bool nb) ∧ w'.cell? ⟨g + 1, 1, none⟩ = some (.slice a2 l2.length cc2) ∧ w'.cell? ⟨g + 1, 2, none⟩ = some (.slice a3 dl.length cc3))) _ := ⟨m0, m1, m2, m3, m4, m5⟩
  refine hK.out _ _ (fun _ => hHeld1) ?_
  clear hK K
  try simp only [Act.put, List.getElem_toArray, List.getElem_cons_zero, List.getElem_cons_succ, List.setIfInBounds_toArray, List.set_cons_zero, List.set_cons_succ]
  refine wpAnyE_takeP (i := 2) (v := .bool true) rfl (by kernel_rfl) (fun _ _ _ h => h) ⟨by rfl, ?y2_1⟩ (by assumption) ?r2_1
  case y2_1 => (intro w; go_simp)
  try simp only [Act.put, List.getElem_toArray, List.getElem_cons_zero, List.getElem_cons_succ, List.setIfInBounds_toArray, List.set_cons_zero, List.set_cons_succ]
  refine wpAnyE_takeP (i := 3) (v := ?v3_1) rfl (by kernel_rfl) (fun _ _ _ h => h) ⟨by rfl, ?y3_1⟩ (by assumption) ?r3_1
  case y3_1 => (intro w; go_simp; try with_reducible rfl)
  try simp only [Act.put, List.getElem_toArray, List.getElem_cons_zero, List.getElem_cons_succ, List.setIfInBounds_toArray, List.set_cons_zero, List.set_cons_succ]
  refine wpAnyE_takeL (i := 4) (c := 5) (v := ?v4_1) rfl (by kernel_rfl) (fun _ _ _ h => h) ⟨by rfl, ?y4_1⟩ (by assumption) ?r4_1
  case y4_1 => (intro w hSw; go_split_ands; go_simp; try with_reducible rfl)
  try simp only [Act.put, List.getElem_toArray, List.getElem_cons_zero, List.getElem_cons_succ, List.setIfInBounds_toArray, List.set_cons_zero, List.set_cons_succ]
  refine wpAnyE_takeP (i := 5) (v := .bool false) rfl (by kernel_rfl) (fun _ _ _ h => h) ⟨by rfl, ?y5_1⟩ (by assumption) ?r5_1
  case y5_1 => (intro w; go_simp)
  try simp only [Act.put, List.getElem_toArray, List.getElem_cons_zero, List.getElem_cons_succ, List.setIfInBounds_toArray, List.set_cons_zero, List.set_cons_succ]
  refine wpAnyE_takeU (i := 6) rfl (by kernel_rfl) (fun _ _ _ h => h) (by rfl) (by assumption) ?_
  try simp only [Act.put, List.getElem_toArray, List.getElem_cons_zero, List.getElem_cons_succ, List.setIfInBounds_toArray, List.set_cons_zero, List.set_cons_succ]
  refine wpAnyE_takeU (i := 7) rfl (by kernel_rfl) (fun _ _ _ h => h) (by rfl) (by assumption) ?_
  try simp only [Act.put, List.getElem_toArray, List.getElem_cons_zero, List.getElem_cons_succ, List.setIfInBounds_toArray, List.set_cons_zero, List.set_cons_succ]
  refine wpAnyE_takeU (i := 8) rfl (by kernel_rfl) (fun _ _ _ h => h) (by rfl) (by assumption) ?_
  try simp only [Act.put, List.getElem_toArray, List.getElem_cons_zero, List.getElem_cons_succ, List.setIfInBounds_toArray, List.set_cons_zero, List.set_cons_succ]
  refine wpAnyE_takeP (i := 9) (v := .bool false) rfl (by kernel_rfl) (fun _ _ _ h => h) ⟨by rfl, ?y9_1⟩ (by assumption) ?r9_1
  case y9_1 => (intro w; go_simp)
  try simp only [Act.put, List.getElem_toArray, List.getElem_cons_zero, List.getElem_cons_succ, List.setIfInBounds_toArray, List.set_cons_zero, List.set_cons_succ]
  refine wpAnyE_takeP (i := 10) (v := .bool true) rfl (by kernel_rfl) (fun _ _ _ h => h) ⟨by rfl, ?y10_1⟩ (by assumption) ?r10_1
  case y10_1 => (intro w; go_simp)
  try simp only [Act.put, List.getElem_toArray, List.getElem_cons_zero, List.getElem_cons_succ, List.setIfInBounds_toArray, List.set_cons_zero, List.set_cons_succ]
  refine wpAnyE_takeP (i := 11) (v := .bool true) rfl (by kernel_rfl) (fun _ _ _ h => h) ⟨by rfl, ?y11_1⟩ (by assumption) ?r11_1
  case y11_1 => (intro w; go_simp)
  try simp only [Act.put, List.getElem_toArray, List.getElem_cons_zero, List.getElem_cons_succ, List.setIfInBounds_toArray, List.set_cons_zero, List.set_cons_succ]
  refine wpAnyE_takeP (i := 12) (v := .bool true) rfl (by kernel_rfl) (fun _ _ _ h => h) ⟨by rfl, ?y12_1⟩ (by assumption) ?r12_1
  case y12_1 => (intro w; go_simp)
  try simp only [Act.put, List.getElem_toArray, List.getElem_cons_zero, List.getElem_cons_succ, List.setIfInBounds_toArray, List.set_cons_zero, List.set_cons_succ]
  refine wpAnyE_takeL (i := 13) (c := 14) (v := ?v13_1) rfl (by kernel_rfl) (fun _ _ _ h => h) ⟨by rfl, ?y13_1⟩ (by assumption) ?r13_1
  case y13_1 => (intro w hSw; go_split_ands; go_simp; try with_reducible rfl)
  try simp only [Act.put, List.getElem_toArray, List.getElem_cons_zero, List.getElem_cons_succ, List.setIfInBounds_toArray, List.set_cons_zero, List.set_cons_succ]
  refine wpAnyE_takeL (i := 15) (c := 16) (v := ?v15_1) rfl (by kernel_rfl) (fun _ _ _ h => h) ⟨by rfl, ?y15_1⟩ (by assumption) ?r15_1
  case y15_1 => (intro w hSw; go_split_ands; go_simp; try with_reducible rfl)
  try simp only [Act.put, List.getElem_toArray, List.getElem_cons_zero, List.getElem_cons_succ, List.setIfInBounds_toArray, List.set_cons_zero, List.set_cons_succ]
  refine wpAnyE_one (i := 14) rfl (by kernel_rfl) (fun K hK => ?_)
  go_simp
  refine (FixNum_any false c s _ hs hc).mono ?_; rintro e w3 ⟨x, rfl, hx3, r⟩; have n0 := cell_fresh m0 r; have n1 := cell_fresh m1 r; have n2 := cell_fresh m2 r; have n3 := cell_fresh m3 r; have n4 := cell_fresh m4 r; have n5 := cell_fresh m5 r; have H_hx3 := Lib.hid hx3; have H_r := Lib.hid r; clear hx3 r
  go_wp2_with (fail)
  have hHeld2 : ((fun (w' : World) => w'.cell? ⟨g, 0, none⟩ = some (.bool false) ∧ w'.cell? ⟨g, 1, none⟩ = some (.int .u64 c) ∧ w'.cell? ⟨g, 2, none⟩ = some (.int .i64 s) ∧ w'.cell? ⟨g + 1, 0, none⟩ = some (.bool nb) ∧ w'.cell? ⟨g + 1, 1, none⟩ = some (.slice a2 l2.length cc2) ∧ w'.cell? ⟨g + 1, 2, none⟩ = some (.slice a3 dl.length cc3))) _ := ⟨n0, n1, n2, n3, n4, n5⟩
  refine hK.out _ _ (fun _ => hHeld2) ?_
  clear hK K
  try simp only [Act.put, List.getElem_toArray, List.getElem_cons_zero, List.getElem_cons_succ, List.setIfInBounds_toArray, List.set_cons_zero, List.set_cons_succ]
  refine wpAnyE_one (i := 16) rfl (by kernel_rfl) (fun K hK => ?_)
  go_simp
  refine (FracCmp_any _ _ _ _ _ _ _ H_hx3.out (((H_hx.out.fresh H_hf.out).fresh H_hf0.out).fresh H_r.out) (zfix_spow hc) (zfix_spow hc) (ten_spow hs) (ten_spow hs)).mono ?_; rintro e w4 ⟨rfl, r⟩; have o0 := cell_fresh n0 r; have o1 := cell_fresh n1 r; have o2 := cell_fresh n2 r; have o3 := cell_fresh n3 r; have o4 := cell_fresh n4 r; have o5 := cell_fresh n5 r; have H_r2 := Lib.hid r; clear r; rw [cmpZ_self]
  go_wp2_with (fail)
  have hHeld3 : ((fun (w' : World) => w'.cell? ⟨g, 0, none⟩ = some (.bool false) ∧ w'.cell? ⟨g, 1, none⟩ = some (.int .u64 c) ∧ w'.cell? ⟨g, 2, none⟩ = some (.int .i64 s) ∧ w'.cell? ⟨g + 1, 0, none⟩ = some (.bool nb) ∧ w'.cell? ⟨g + 1, 1, none⟩ = some (.slice a2 l2.length cc2) ∧ w'.cell? ⟨g + 1, 2, none⟩ = some (.slice a3 dl.length cc3))) _ := ⟨o0, o1, o2, o3, o4, o5⟩
  refine hK.out _ _ (fun _ => hHeld3) ?_
  clear hK K
  try simp only [Act.put, List.getElem_toArray, List.getElem_cons_zero, List.getElem_cons_succ, List.setIfInBounds_toArray, List.set_cons_zero, List.set_cons_succ]
  refine wpAnyE_takeP (i := 17) (v := .bool true) rfl (by kernel_rfl) (fun _ _ _ h => h) ⟨by rfl, ?y17_1⟩ (by assumption) ?r17_1
  case y17_1 => (intro w; go_simp)
  try simp only [Act.put, List.getElem_toArray, List.getElem_cons_zero, List.getElem_cons_succ, List.setIfInBounds_toArray, List.set_cons_zero, List.set_cons_succ]
  refine wpAnyE_takeP (i := 18) (v := .bool true) rfl (by kernel_rfl) (fun _ _ _ h => h) ⟨by rfl, ?y18_1⟩ (by assumption) ?r18_1
  case y18_1 => (intro w; go_simp)
  try simp only [Act.put, List.getElem_toArray, List.getElem_cons_zero, List.getElem_cons_succ, List.setIfInBounds_toArray, List.set_cons_zero, List.set_cons_succ]
  refine wpAnyE_one (i := 19) rfl (by kernel_rfl) (fun K hK => ?_)
  go_simp
  refine hK.out _ _ (fun h => Bool.noConfusion (show true = false from h)) ?_
  clear hK K
  try simp only [Act.put, List.getElem_toArray, List.getElem_cons_zero, List.getElem_cons_succ, List.setIfInBounds_toArray, List.set_cons_zero, List.set_cons_succ]
  refine wpAnyE_done (by kernel_rfl) ?_ _
  go_wp2
  go_ret
  exact ⟨rfl, fresh_trans (fresh_trans (fresh_trans H_hf.out H_hf0.out) H_r.out) H_r2.out⟩

set_option maxRecDepth 20000 in
set_option maxHeartbeats 2000000 in
theorem FixHas_t (c s : Nat) (xw : Value) (w : World) (hs : s ≤ 19) (hc : c ≤ 9999999999999999999) (hpos : 0 < c) (hx : SFr w xw (zfix true c) (10 ^ s)) :
    Calls Tryz.prog 28 #[fx true c s, xw] w (VRet w (.bool true)) := by
  obtain ⟨nb, v2, l2, dv, dl, rfl, s1, s2, s3, s4, s5, s6, s7⟩ := hx
  obtain ⟨a2, cc2, rfl⟩ := s1.form
  obtain ⟨a3, cc3, rfl⟩ := s5.form
  have hx : SFr w (.agg #[.bool nb, .slice a2 l2.length cc2, .slice a3 dl.length cc3]) (zfix true c) (10 ^ s) := ⟨nb, _, l2, _, dl, rfl, s1, s2, s3, s4, s5, s6, s7⟩
  have his : fixIs c s = true := by unfold fixIs; simp; omega
  have tc : ((c : Int) == 0) = false := by rw [beq_eq_false_iff_ne]; omega
  have H_hpos := Lib.hid hpos
  clear hpos
  obtain ⟨g, hg⟩ : ∃ g, g = w.heap.size := ⟨_, rfl⟩
  have bx := boxes2 w #[.bool true, .int .u64 c, .int .i64 s] #[.bool nb, .slice a2 l2.length cc2, .slice a3 dl.length cc3] 24 31 g hg
  clear s1 s2 s3 s4 s5 s6 s7
  have H_bx := Lib.hid bx; clear bx
  have H_hx := Lib.hid hx; clear hx
  have H_his := Lib.hid his; clear his
  go_enter Tryz.func28, Tryz.ntmps28
  go_wp2_with (fail)
  generalize hw1 : (w.alloc _).alloc _ = w1
  rw [← hg]
  obtain ⟨b1, b2, hf⟩ := H_bx.out w1 hw1
  have k0 := row_cell b1 0
  have k1 := row_cell b1 1
  have k2 := row_cell b1 2
  have k3 := row_cell b2 0
  have k4 := row_cell b2 1
  have k5 := row_cell b2 2
  simp at k0 k1 k2 k3 k4 k5
  have H_b1 := Lib.hid b1; clear b1
  have H_b2 := Lib.hid b2; clear b2
  have H_hf := Lib.hid hf; clear hf
  have H_hw1 := Lib.hid hw1; clear hw1
  have H_hg := Lib.hid hg; clear hg
  have hcallIs : ∀ W, Calls Tryz.prog 33 #[fx true c s] W (VRet W (.bool true)) := fun W => by have := FixIs_any true c (s : Int) W; rw [H_his.out] at this; exact this
  have H_hcallIs := Lib.hid hcallIs
  clear hcallIs
  go_region_held3 (fun (w' : World) => w'.cell? ⟨g, 0, none⟩ = some (.bool true) ∧ w'.cell? ⟨g, 1, none⟩ = some (.int .u64 c) ∧ w'.cell? ⟨g, 2, none⟩ = some (.int .i64 s) ∧ w'.cell? ⟨g + 1, 0, none⟩ = some (.bool nb) ∧ w'.cell? ⟨g + 1, 1, none⟩ = some (.slice a2 l2.length cc2) ∧ w'.cell? ⟨g + 1, 2, none⟩ = some (.slice a3 dl.length cc3)) (first | exact ⟨k0, k1, k2, k3, k4, k5⟩ | exact ⟨m0, m1, m2, m3, m4, m5⟩ | exact ⟨n0, n1, n2, n3, n4, n5⟩ | exact ⟨o0, o1, o2, o3, o4, o5⟩) (first
    | (go_at_call 33; (with_reducible refine (H_hcallIs.out _).mono ?_); rintro e w2 ⟨rfl, r⟩; have hf0 : Fresh w1 w2 := (by first | exact r | exact r.of_drew | exact r.of_drewN); have m0 := cell_fresh k0 hf0; have m1 := cell_fresh k1 hf0; have m2 := cell_fresh k2 hf0; have m3 := cell_fresh k3 hf0; have m4 := cell_fresh k4 hf0; have m5 := cell_fresh k5 hf0; have H_hf0 := Lib.hid hf0; clear r hf0)
    | (go_at_call 10; (with_reducible refine (FixNum_any true c s _ hs hc).mono ?_); rintro e w3 ⟨x, rfl, hx3, r⟩; have n0 := cell_fresh m0 r; have n1 := cell_fresh m1 r; have n2 := cell_fresh m2 r; have n3 := cell_fresh m3 r; have n4 := cell_fresh m4 r; have n5 := cell_fresh m5 r; have H_hx3 := Lib.hid hx3; have H_r := Lib.hid r; clear hx3 r)
    | (go_at_call 15; (with_reducible refine (FracCmp_any _ _ _ _ _ _ _ H_hx3.out (((H_hx.out.fresh H_hf.out).fresh H_hf0.out).fresh H_r.out) (zfix_spow hc) (zfix_spow hc) (ten_spow hs) (ten_spow hs)).mono ?_); rintro e w4 ⟨rfl, r⟩; have o0 := cell_fresh n0 r; have o1 := cell_fresh n1 r; have o2 := cell_fresh n2 r; have o3 := cell_fresh n3 r; have o4 := cell_fresh n4 r; have o5 := cell_fresh n5 r; have H_r2 := Lib.hid r; clear r; rw [cmpZ_self]))
  go_wp2
  go_ret
  exact ⟨rfl, fresh_trans (fresh_trans (fresh_trans H_hf.out H_hf0.out) H_r.out) H_r2.out⟩

end Go.Proofs.YtecadiflbfpofaaGreatDoor

/- The contracts of the reference on govalues' decimals: FixSame. -/
namespace Go.Proofs.YtecadiflbfpofaaGreatDoor
open Go.RowKit

theorem FixHas_any (neg : Bool) (c s : Nat) (xw : Value) (w : World) (hs : s ≤ 19) (hc : c ≤ 9999999999999999999) (hcan : neg = true → 0 < c) (hx : SFr w xw (zfix neg c) (10 ^ s)) :
    Calls Tryz.prog 28 #[fx neg c s, xw] w (VRet w (.bool true)) := by
  cases neg
  · exact FixHas_f c s xw w hs hc hx
  · exact FixHas_t c s xw w hs hc (hcan rfl) hx

set_option maxRecDepth 20000 in
set_option maxHeartbeats 2000000 in
theorem FixSame_any (neg : Bool) (c s : Nat) (nb : Bool) (v : Value) (l : List Nat) (w : World) (hs : s ≤ 19) (hc : c ≤ 9999999999999999999) (hcan : neg = true → 0 < c)
    (h : SNat w v l) (hn : Norm l) (hb : l = [] → nb = false) (hz : sint nb l = zfix neg c) (hl : l.length ≤ 1000) :
    Calls Tryz.prog 31 #[fx neg c s, .agg #[.bool nb, v, .int .i64 (-(s : Int))]] w (VRet w (.bool true)) := by
  have t1 : IntKind.i64.wrap (s : Int) = (s : Int) := wrap_nat s (by omega)
  obtain ⟨a, cc, rfl⟩ := h.form
  obtain ⟨g, hg⟩ : ∃ g, g = w.heap.size := ⟨_, rfl⟩
  have bx := boxes2 w #[.bool neg, .int .u64 c, .int .i64 s] #[.bool nb, .slice a l.length cc, .int .i64 (-(s : Int))] 24 58 g hg
  have hcall : ∀ W, Fresh w W → Calls Tryz.prog 34 #[.agg #[.bool nb, .slice a l.length cc, .int .i64 (-(s : Int))]] W (FRet W (zfix neg c) (10 ^ s)) := fun W hW => by
    rw [← hz]; exact DecFrac_any nb _ l s W (h.fresh hW) hn hb (by omega) hl
  have H_bx := Lib.hid bx; clear bx
  have H_h := Lib.hid h; clear h
  have H_hn := Lib.hid hn; clear hn
  have H_hb := Lib.hid hb; clear hb
  have H_hz := Lib.hid hz; clear hz
  have H_hcan := Lib.hid hcan; clear hcan
  have H_hcall := Lib.hid hcall; clear hcall
  go_enter Tryz.func31, Tryz.ntmps31
  go_wp2_with (fail)
  generalize hw1 : (w.alloc _).alloc _ = w1
  rw [← hg]
  obtain ⟨b1, b2, hf⟩ := H_bx.out w1 hw1
  have k0 := row_cell b1 0
  have k1 := row_cell b1 1
  have k2 := row_cell b1 2
  have k3 := row_cell b2 0
  have k4 := row_cell b2 1
  have k5 := row_cell b2 2
  simp at k0 k1 k2 k3 k4 k5
  have hcall := fun (r : Fresh w1 w1.drew) => H_hcall.out w1.drew (fresh_trans hf r)
  have H_b1 := Lib.hid b1; clear b1
  have H_b2 := Lib.hid b2; clear b2
  have H_hf := Lib.hid hf; clear hf
  have H_hw1 := Lib.hid hw1; clear hw1
  have H_hg := Lib.hid hg; clear hg
  have H_hcall := Lib.hid hcall; clear hcall
  go_region_held3 (fun (w' : World) => w'.cell? ⟨g, 0, none⟩ = some (.bool neg) ∧ w'.cell? ⟨g, 1, none⟩ = some (.int .u64 c) ∧ w'.cell? ⟨g, 2, none⟩ = some (.int .i64 s) ∧ w'.cell? ⟨g + 1, 0, none⟩ = some (.bool nb) ∧ w'.cell? ⟨g + 1, 1, none⟩ = some (.slice a l.length cc) ∧ w'.cell? ⟨g + 1, 2, none⟩ = some (.int .i64 (-(s : Int)))) (first | exact ⟨k0, k1, k2, k3, k4, k5⟩ | exact ⟨m0, m1, m2, m3, m4, m5⟩ | exact ⟨n0, n1, n2, n3, n4, n5⟩) (first
    | (go_at_call 34; (with_reducible refine (H_hcall.out ?c1).mono ?_); (case c1 => exact (Keep.refl _ _).drew); rintro e w2 ⟨x, rfl, hx, r⟩; have hf0 : Fresh w1 w2 := (by first | exact r | exact r.of_drew | exact r.of_drewN); have m0 := cell_fresh k0 hf0; have m1 := cell_fresh k1 hf0; have m2 := cell_fresh k2 hf0; have m3 := cell_fresh k3 hf0; have m4 := cell_fresh k4 hf0; have m5 := cell_fresh k5 hf0; have H_hx := Lib.hid hx; have H_hf0 := Lib.hid hf0; clear hx r hf0)
    | (go_at_call 28; (with_reducible refine (FixHas_any neg c s _ _ hs hc H_hcan.out H_hx.out).mono ?_); rintro e w3 ⟨rfl, r⟩; have n0 := cell_fresh m0 r; have n1 := cell_fresh m1 r; have n2 := cell_fresh m2 r; have n3 := cell_fresh m3 r; have n4 := cell_fresh m4 r; have n5 := cell_fresh m5 r; have H_r := Lib.hid r; clear r))
  go_wp2
  go_ret
  exact ⟨by simp, fresh_trans (fresh_trans H_hf.out H_hf0.out) H_r.out⟩

end Go.Proofs.YtecadiflbfpofaaGreatDoor

/- The contracts of the reference on govalues' decimals: FixAll of two. -/
namespace Go.Proofs.YtecadiflbfpofaaGreatDoor
open Go.RowKit

set_option maxRecDepth 20000 in
set_option maxHeartbeats 2000000 in
theorem FixAll_two (n1 n2 : Bool) (c1 c2 : Nat) (s1 s2 : Int) (g : Nat) (w : World) (hb : w.heap[g]? = some (.cells #[.bool n1, .int .u64 c1, .int .i64 s1, .bool n2, .int .u64 c2, .int .i64 s2] 24 (0, 0))) :
    Calls Tryz.prog 9 #[.slice (some ⟨g, 0, none⟩) 2 2] w (VRet w (.bool (fixIs c1 s1 && fixIs c2 s2))) := by
  have k0 := row_cell hb 0
  have k1 := row_cell hb 1
  have k2 := row_cell hb 2
  simp at k0 k1 k2
  have H_hb := Lib.hid hb; clear hb
  go_enter Tryz.func9, Tryz.ntmps9
  go_wp2_with (fail)
  refine wp_loop_rounds 3 ?_
  rw [rounds_succ]
  go_wp2_with (fail)
  refine (FixIs_any n1 c1 s1 _).mono ?_
  rintro e w2 ⟨rfl, hf2⟩
  have hfa : Fresh w w2 := fresh_trans ((Keep.refl _ _).alloc _) hf2
  have b2 := row_fresh H_hb.out hfa
  clear k0 k1 k2
  have k3 := row_cell b2 3
  have k4 := row_cell b2 4
  have k5 := row_cell b2 5
  simp at k3 k4 k5
  have H_hf2 := Lib.hid hf2; clear hf2
  have H_hfa := Lib.hid hfa; clear hfa
  have H_b2 := Lib.hid b2; clear b2
  cases h1 : fixIs c1 s1
  · go_wp2_with (fail)
    go_ret
    exact ⟨by rw [h1]; rfl, H_hfa.out⟩
  · go_wp2_with (fail)
    rw [rounds_succ]
    go_wp2_with (fail)
    refine (FixIs_any n2 c2 s2 _).mono ?_
    rintro e w3 ⟨rfl, hf3⟩
    have hfb : Fresh w w3 := fresh_trans H_hfa.out (fresh_trans ((Keep.refl _ _).alloc _) hf3)
    have H_hf3 := Lib.hid hf3; clear hf3
    have H_hfb := Lib.hid hfb; clear hfb
    cases h2 : fixIs c2 s2
    · go_wp2_with (fail)
      go_ret
      exact ⟨by rw [h1, h2]; rfl, H_hfb.out⟩
    · go_wp2_with (fail)
      rw [rounds_succ]
      go_wp2_with (fail)
      go_ret
      exact ⟨by rw [h1, h2]; rfl, H_hfb.out⟩

end Go.Proofs.YtecadiflbfpofaaGreatDoor

/- gvLives: 1.5 and 2 are 3.5. -/
namespace Go.Proofs.YtecadiflbfpofaaGreatDoor
open Go.RowKit

theorem lsh_lives (w : World) : Calls Tryz.prog 83 #[.int .u64 2, .int .i64 1] w (fun e w' => e = .returned (.tuple #[.int .u64 20, .bool true]) ∧ w' = w) := by
  go_enter Tryz.func83, Tryz.ntmps83
  go_wp2
  go_ret2
  exact ⟨rfl, rfl⟩

theorem add_lives (w : World) : Calls Tryz.prog 105 #[.int .u64 15, .int .u64 20] w (fun e w' => e = .returned (.tuple #[.int .u64 35, .bool true]) ∧ w' = w) := by
  go_enter Tryz.func105, Tryz.ntmps105
  go_wp2
  go_ret2
  exact ⟨rfl, rfl⟩

theorem newFromFint_lives (w : World) : Calls Tryz.prog 107 #[.bool false, .int .u64 35, .int .i64 1, .int .i64 0] w (VRet w (.tuple #[gd false 1 35, .nilIface])) := by
  go_enter Tryz.func107, Tryz.ntmps107
  go_wp2_with (fail)
  refine (newSafe_any false 1 35 _ (by omega) (by omega)).mono ?_
  rintro e w2 ⟨rfl, hf⟩
  have b := row_fresh (heap_alloc_new w _) hf
  have p0 := row_cell b 0
  have p1 := row_cell b 1
  have p2 := row_cell b 2
  simp at p0 p1 p2
  have q0 : w2.frozen? ⟨w.heap.size, 0, none⟩ = false := frozen_of_row _ _ _ _ _ b
  have q1 : w2.frozen? ⟨w.heap.size, 1, none⟩ = false := frozen_of_row _ _ _ _ _ b
  have q2 : w2.frozen? ⟨w.heap.size, 2, none⟩ = false := frozen_of_row _ _ _ _ _ b
  have H_b := Lib.hid b; clear b
  have H_hf := Lib.hid hf; clear hf
  go_wp2_with (fail)
  refine bodyPost_ret (results_cell_tmp_row rfl _ _ w.heap.size 65 #[.bool false, .int .i8 1, .int .u64 35] (0, 0) _ rfl (row_set (row_set (row_set H_b.out))) Tryz.underlying65 rfl (by kernel_rfl)) rfl ?_
  exact ⟨rfl, Fresh.set3 (fresh_trans ((Keep.refl _ _).alloc _) H_hf.out) (Nat.le_refl _)⟩

set_option maxRecDepth 20000 in
set_option maxHeartbeats 2000000 in
theorem addFint_lives (w : World) : Calls Tryz.prog 97 #[gd false 1 15, gd false 0 2, .int .i64 0] w (VRet w (.tuple #[gd false 1 35, .nilIface])) := by
  obtain ⟨g, hg⟩ : ∃ g, g = w.heap.size := ⟨_, rfl⟩
  have bx := boxes3 w #[.bool false, .int .i8 (1 : Nat), .int .u64 (15 : Nat)] #[.bool false, .int .i8 (0 : Nat), .int .u64 (2 : Nat)] #[.bool false, .int .i8 0, .int .u64 0] 65 65 65 g hg
  have H_bx := Lib.hid bx; clear bx
  go_enter Tryz.func97, Tryz.ntmps97
  go_wp2_with (fail)
  generalize hw1 : ((w.alloc _).alloc _).alloc _ = w1
  rw [← hg]
  obtain ⟨b1, b2, b3, hf, hgs⟩ := H_bx.out w1 hw1
  have k0 := row_cell b1 0
  have k1 := row_cell b1 1
  have k2 := row_cell b1 2
  have k3 := row_cell b2 0
  have k4 := row_cell b2 1
  have k5 := row_cell b2 2
  simp at k0 k1 k2 k3 k4 k5
  have H_b1 := Lib.hid b1; clear b1
  have H_b2 := Lib.hid b2; clear b2
  have H_b3 := Lib.hid b3; clear b3
  have H_hf := Lib.hid hf; clear hf
  have H_hw1 := Lib.hid hw1; clear hw1
  have H_hg := Lib.hid hg; clear hg
  have H_hgs := Lib.hid hgs; clear hgs
  refine (Scale_any false 1 15 _ (by omega)).mono ?_
  rintro e w2 ⟨rfl, f2⟩
  have m0 := cell_fresh k0 f2
  have m1 := cell_fresh k1 f2
  have m2 := cell_fresh k2 f2
  have m3 := cell_fresh k3 f2
  have m4 := cell_fresh k4 f2
  have m5 := cell_fresh k5 f2
  clear k0 k1 k2 k3 k4 k5
  have H_f2 := Lib.hid f2
  clear f2
  go_wp2_with (fail)
  refine (IsNeg_any false 1 15 _).mono ?_
  rintro e w3 ⟨rfl, f3⟩
  have n0 := cell_fresh m0 f3
  have n1 := cell_fresh m1 f3
  have n2 := cell_fresh m2 f3
  have n3 := cell_fresh m3 f3
  have n4 := cell_fresh m4 f3
  have n5 := cell_fresh m5 f3
  clear m0 m1 m2 m3 m4 m5
  have H_f3 := Lib.hid f3
  clear f3
  go_wp2_with (fail)
  refine (Scale_any false 0 2 _ (by omega)).mono ?_
  rintro e w4 ⟨rfl, f4⟩
  have o0 := cell_fresh n0 f4
  have o1 := cell_fresh n1 f4
  have o2 := cell_fresh n2 f4
  have o3 := cell_fresh n3 f4
  have o4 := cell_fresh n4 f4
  have o5 := cell_fresh n5 f4
  clear n0 n1 n2 n3 n4 n5
  have H_f4 := Lib.hid f4
  clear f4
  go_wp2_with (fail)
  refine (Scale_any false 0 2 _ (by omega)).mono ?_
  rintro e w5 ⟨rfl, f5⟩
  have u0 := cell_fresh o0 f5
  have u1 := cell_fresh o1 f5
  have u2 := cell_fresh o2 f5
  have u3 := cell_fresh o3 f5
  have u4 := cell_fresh o4 f5
  have u5 := cell_fresh o5 f5
  clear o0 o1 o2 o3 o4 o5
  have H_f5 := Lib.hid f5
  clear f5
  go_wp2_with (fail)
  refine (lsh_lives _).mono ?_
  rintro e _ ⟨rfl, rfl⟩
  go_wp2_with (fail)
  refine (IsNeg_any false 0 2 _).mono ?_
  rintro e w6 ⟨rfl, f6⟩
  have v0 := cell_fresh u0 f6
  have v1 := cell_fresh u1 f6
  have v2 := cell_fresh u2 f6
  have v3 := cell_fresh u3 f6
  have v4 := cell_fresh u4 f6
  have v5 := cell_fresh u5 f6
  clear u0 u1 u2 u3 u4 u5
  have H_f6 := Lib.hid f6
  clear f6
  go_wp2_with (fail)
  refine (add_lives _).mono ?_
  rintro e _ ⟨rfl, rfl⟩
  go_wp2_with (fail)
  refine (newFromFint_lives _).mono ?_
  rintro e w7 ⟨rfl, f7⟩
  have hfa : Fresh w1 w7 := fresh_trans (fresh_trans (fresh_trans (fresh_trans (fresh_trans H_f2.out H_f3.out) H_f4.out) H_f5.out) H_f6.out) f7
  have b4 := row_fresh H_b3.out hfa
  have p0 := row_cell b4 0
  have p1 := row_cell b4 1
  have p2 := row_cell b4 2
  simp at p0 p1 p2
  have q0 : w7.frozen? ⟨g + 1 + 1, 0, none⟩ = false := frozen_of_row _ _ _ _ _ b4
  have q1 : w7.frozen? ⟨g + 1 + 1, 1, none⟩ = false := frozen_of_row _ _ _ _ _ b4
  have q2 : w7.frozen? ⟨g + 1 + 1, 2, none⟩ = false := frozen_of_row _ _ _ _ _ b4
  have H_b4 := Lib.hid b4; clear b4
  have H_hfa := Lib.hid hfa; clear hfa
  have H_f7 := Lib.hid f7; clear f7
  go_wp2_with (fail)
  refine bodyPost_ret (results_cell_tmp_row rfl _ _ (g + 1 + 1) 65 #[.bool false, .int .i8 1, .int .u64 35] (0, 0) _ rfl (row_set (row_set (row_set H_b4.out))) Tryz.underlying65 rfl (by kernel_rfl)) rfl ?_
  exact ⟨rfl, Fresh.set3 (fresh_trans H_hf.out H_hfa.out) (by have := H_hg.out; omega)⟩

end Go.Proofs.YtecadiflbfpofaaGreatDoor

/- gvLives: 1.5 and 2 are 3.5: AddExact, Add. -/
namespace Go.Proofs.YtecadiflbfpofaaGreatDoor
open Go.RowKit

set_option maxRecDepth 20000 in
set_option maxHeartbeats 2000000 in
theorem AddExact_lives (w : World) : Calls Tryz.prog 90 #[gd false 1 15, gd false 0 2, .int .i64 0] w (VRet w (.tuple #[gd false 1 35, .nilIface])) := by
  obtain ⟨g, hg⟩ : ∃ g, g = w.heap.size := ⟨_, rfl⟩
  have bx := boxes3 w #[.bool false, .int .i8 (1 : Nat), .int .u64 (15 : Nat)] #[.bool false, .int .i8 (0 : Nat), .int .u64 (2 : Nat)] #[.bool false, .int .i8 0, .int .u64 0] 65 65 65 g hg
  have H_bx := Lib.hid bx; clear bx
  go_enter Tryz.func90, Tryz.ntmps90
  go_wp2_with (fail)
  generalize hw1 : ((w.alloc _).alloc _).alloc _ = w1
  rw [← hg]
  obtain ⟨b1, b2, b3, hf, hgs⟩ := H_bx.out w1 hw1
  have H_b1 := Lib.hid b1; clear b1
  have H_b2 := Lib.hid b2; clear b2
  have H_b3 := Lib.hid b3; clear b3
  have H_hf := Lib.hid hf; clear hf
  have H_hw1 := Lib.hid hw1; clear hw1
  have H_hg := Lib.hid hg; clear hg
  have H_hgs := Lib.hid hgs; clear hgs
  refine (addFint_lives _).mono ?_
  rintro e w2 ⟨rfl, f2⟩
  have f3 := fresh_trans f2 ((Keep.refl (fun _ => False) w2).alloc (.cells #[.bool false, .int .i8 1, .int .u64 35] 65))
  have b4 := row_fresh H_b3.out f3
  have p0 := row_cell b4 0
  have p1 := row_cell b4 1
  have p2 := row_cell b4 2
  have q0 := frozen_of_row _ _ 0 _ _ b4
  have q1 := frozen_of_row _ _ 1 _ _ b4
  have q2 := frozen_of_row _ _ 2 _ _ b4
  have H_f2 := Lib.hid f2; clear f2
  have H_f3 := Lib.hid f3; clear f3
  have H_b4 := Lib.hid b4; clear b4
  go_wp2_with (fail)
  refine bodyPost_ret (results_cell_tmp_row rfl _ _ (g + 1 + 1) 65 #[.bool false, .int .i8 1, .int .u64 35] (0, 0) _ rfl (row_set (row_set (row_set H_b4.out))) Tryz.underlying65 rfl (by kernel_rfl)) rfl ?_
  exact ⟨rfl, Fresh.set3 (fresh_trans H_hf.out H_f3.out) (by have := H_hg.out; omega)⟩

set_option maxRecDepth 20000 in
set_option maxHeartbeats 2000000 in
theorem Add_lives (w : World) : Calls Tryz.prog 75 #[gd false 1 15, gd false 0 2] w (VRet w (.tuple #[gd false 1 35, .nilIface])) := by
  obtain ⟨g, hg⟩ : ∃ g, g = w.heap.size := ⟨_, rfl⟩
  have bx := boxes3 w #[.bool false, .int .i8 (1 : Nat), .int .u64 (15 : Nat)] #[.bool false, .int .i8 (0 : Nat), .int .u64 (2 : Nat)] #[.bool false, .int .i8 0, .int .u64 0] 65 65 65 g hg
  have H_bx := Lib.hid bx; clear bx
  go_enter Tryz.func75, Tryz.ntmps75
  go_wp2_with (fail)
  generalize hw1 : ((w.alloc _).alloc _).alloc _ = w1
  rw [← hg]
  obtain ⟨b1, b2, b3, hf, hgs⟩ := H_bx.out w1 hw1
  have H_b1 := Lib.hid b1; clear b1
  have H_b2 := Lib.hid b2; clear b2
  have H_b3 := Lib.hid b3; clear b3
  have H_hf := Lib.hid hf; clear hf
  have H_hw1 := Lib.hid hw1; clear hw1
  have H_hg := Lib.hid hg; clear hg
  have H_hgs := Lib.hid hgs; clear hgs
  refine (AddExact_lives _).mono ?_
  rintro e w2 ⟨rfl, f2⟩
  have b4 := row_fresh H_b3.out f2
  have p0 := row_cell b4 0
  have p1 := row_cell b4 1
  have p2 := row_cell b4 2
  simp at p0 p1 p2
  have q0 := frozen_of_row _ _ 0 _ _ b4
  have q1 := frozen_of_row _ _ 1 _ _ b4
  have q2 := frozen_of_row _ _ 2 _ _ b4
  have H_f2 := Lib.hid f2; clear f2
  have H_b4 := Lib.hid b4; clear b4
  go_wp2_with (fail)
  refine bodyPost_ret (results_cell_tmp_row rfl _ _ (g + 1 + 1) 65 #[.bool false, .int .i8 1, .int .u64 35] (0, 0) _ rfl (row_set (row_set (row_set H_b4.out))) Tryz.underlying65 rfl (by kernel_rfl)) rfl ?_
  exact ⟨rfl, Fresh.set3 (fresh_trans H_hf.out H_f2.out) (by have := H_hg.out; omega)⟩

end Go.Proofs.YtecadiflbfpofaaGreatDoor

/- gvLives: 1.5 and 2 are 3.5: FixAdd. -/
namespace Go.Proofs.YtecadiflbfpofaaGreatDoor
open Go.RowKit

theorem FixAdd1_idle (p q : Addr) (w : World) :
    CallsD Tryz.prog 74 #[.pointer (some p), .pointer (some q)] .returning w fun e u' w' => e = .returned (.tuple #[]) ∧ u' = .returning ∧ w' = w := by
  refine callsD_of_wpS Tryz.func74 rfl fun c₀ cs hu => ?_
  apply wpS_seq
  apply wpS_region
  simp [wpOpsS, go_sem, recoverD, hu, Tryz.ntmps74, Exit.thenS]
  refine wpS_cond (t := false) (by simp [Act.eval, Array.replicate]) ?_
  simp only [Bool.false_eq_true, if_false]
  refine wpS_of_wp (wp_skip ?_)
  cases c₀
  simp_all [bodyPostS, results, Tryz.results74]

set_option maxRecDepth 20000 in
set_option maxHeartbeats 2000000 in
theorem FixAdd_lives (w : World) :
    Calls Tryz.prog 46 #[fx false 15 1, fx false 2 0] w (VRet w (.tuple #[fx false 35 1, .int .i64 0])) := by
  have hmf : ∀ (fn : Fn) (first cap : Array Value) (w : World), (Instr.makeFunc fn first cap).run Tryz.prog w = .ok (.func fn first cap) w := fun _ _ _ _ => rfl
  go_enter_defers Tryz.func46, Tryz.ntmps46
  go_wp2_with (fail)
  obtain ⟨g, hg⟩ : ∃ g, g = w.heap.size := ⟨_, rfl⟩
  have bx := boxes4 w #[.bool false, .int .u64 (15 : Nat), .int .i64 (1 : Nat)] #[.bool false, .int .u64 (2 : Nat), .int .i64 (0 : Nat)] #[.bool false, .int .u64 0, .int .i64 0] #[.int .i64 0] 24 24 24 3 g hg
  have H_bx := Lib.hid bx
  clear bx
  generalize hw1 : (((w.alloc _).alloc _).alloc _).alloc _ = w1
  rw [← hg]
  obtain ⟨b1, b2, b3, b4, hf⟩ := H_bx.out w1 hw1
  have H_b1 := Lib.hid b1; clear b1
  have H_b2 := Lib.hid b2; clear b2
  have H_b3 := Lib.hid b3; clear b3
  have H_b4 := Lib.hid b4; clear b4
  have H_hf := Lib.hid hf; clear hf
  have H_hw1 := Lib.hid hw1; clear hw1
  have H_hg := Lib.hid hg; clear hg
  refine (fixed_any false 1 15 _ (by omega) (by omega)).mono ?_
  rintro e w2 ⟨rfl, hf2⟩
  simp only [Bool.false_and]
  have d2 := row_fresh H_b2.out hf2
  have k0 := row_cell d2 0
  have k1 := row_cell d2 1
  have k2 := row_cell d2 2
  simp at k0 k1 k2
  have a0 := fun o => cell_fresh k0 ((Keep.refl (fun _ => False) w2).alloc o)
  have a1 := fun o => cell_fresh k1 ((Keep.refl (fun _ => False) w2).alloc o)
  have a2 := fun o => cell_fresh k2 ((Keep.refl (fun _ => False) w2).alloc o)
  obtain ⟨h, hh⟩ : ∃ h, h = w2.heap.size := ⟨_, rfl⟩
  clear k0 k1 k2
  have H_hf2 := Lib.hid hf2; clear hf2
  have H_d2 := Lib.hid d2; clear d2
  have H_hh := Lib.hid hh; clear hh
  go_wp2_with (fail)
  generalize hw3 : w2.alloc _ = w3
  have hf3 : Fresh w2 w3 := by rw [← hw3]; exact (Keep.refl _ _).alloc _
  have e1 : w3.heap[h]? = some (.cells #[.bool false, .int .i8 (1 : Nat), .int .u64 (15 : Nat)] 65 (0, 0)) := by rw [← hw3, H_hh.out]; exact heap_alloc_new w2 _
  rw [← H_hh.out]
  clear a0 a1 a2
  have H_hw3 := Lib.hid hw3; clear hw3
  have H_hf3 := Lib.hid hf3; clear hf3
  have H_e1 := Lib.hid e1; clear e1
  refine (fixed_any false 0 2 _ (by omega) (by omega)).mono ?_
  rintro e w4 ⟨rfl, hf4⟩
  simp only [Bool.false_and]
  have e2 := row_fresh H_e1.out hf4
  have k0 := row_cell e2 0
  have k1 := row_cell e2 1
  have k2 := row_cell e2 2
  simp at k0 k1 k2
  have a0 := fun o => cell_fresh k0 ((Keep.refl (fun _ => False) w4).alloc o)
  have a1 := fun o => cell_fresh k1 ((Keep.refl (fun _ => False) w4).alloc o)
  have a2 := fun o => cell_fresh k2 ((Keep.refl (fun _ => False) w4).alloc o)
  clear k0 k1 k2
  have H_hf4 := Lib.hid hf4; clear hf4
  have H_e2 := Lib.hid e2; clear e2
  go_wp2_with (fail)
  generalize hw5 : w4.alloc _ = w5
  have hf5 : Fresh w4 w5 := by rw [← hw5]; exact (Keep.refl _ _).alloc _
  have H_hw5 := Lib.hid hw5; clear hw5
  have H_hf5 := Lib.hid hf5; clear hf5
  clear a0 a1 a2
  refine (Add_lives _).mono ?_
  rintro e w6 ⟨rfl, hf6⟩
  have H_hf6 := Lib.hid hf6
  clear hf6
  go_wp2_with (fail)
  generalize hw6 : w6.alloc _ = w6b
  have hf6b : Fresh w6 w6b := by rw [← hw6]; exact (Keep.refl _ _).alloc _
  have H_hw6 := Lib.hid hw6; clear hw6
  have H_hf6b := Lib.hid hf6b; clear hf6b
  refine (fix_any false 1 35 _ (by omega)).mono ?_
  rintro e w7 ⟨rfl, hf7⟩
  have hfa : Fresh w1 w7 := fresh_trans (fresh_trans (fresh_trans (fresh_trans (fresh_trans (fresh_trans H_hf2.out H_hf3.out) H_hf4.out) H_hf5.out) H_hf6.out) H_hf6b.out) hf7
  have c2' := row_fresh H_b3.out hfa
  have c3 := row_fresh H_b4.out hfa
  have p0 := row_cell c2' 0
  have p1 := row_cell c2' 1
  have p2 := row_cell c2' 2
  have p3 := row_cell c3 0
  simp at p0 p1 p2 p3
  have q0 : w7.frozen? ⟨g + 1 + 1, 0, none⟩ = false := frozen_of_row _ _ _ _ _ c2'
  have q1 : w7.frozen? ⟨g + 1 + 1, 1, none⟩ = false := frozen_of_row _ _ _ _ _ c2'
  have q2 : w7.frozen? ⟨g + 1 + 1, 2, none⟩ = false := frozen_of_row _ _ _ _ _ c2'
  have q3 : w7.frozen? ⟨g + 1 + 1 + 1, 0, none⟩ = false := frozen_of_row _ _ _ _ _ c3
  have H_hf7 := Lib.hid hf7; clear hf7
  have H_hfa := Lib.hid hfa; clear hfa
  have H_c2' := Lib.hid c2'; clear c2'
  have H_c3 := Lib.hid c3; clear c3
  go_wp2_with (fail)
  refine leaves_cons (f := 74) (args := #[.pointer (some ⟨g + 1 + 1, 0, none⟩), .pointer (some ⟨g + 1 + 1 + 1, 0, none⟩)]) (by simp) (by simp [go_sem]) ?_
  refine (FixAdd1_idle _ _ _).mono ?_
  rintro e u' w'' ⟨rfl, rfl, rfl⟩
  have c4 : (w7.setCell ⟨g + 1 + 1, 0, none⟩ (.bool false)).heap[g + 1 + 1]? = _ := row_set H_c2'.out
  have c5 := row_set (i := 1) (v := .int .u64 35) c4
  have c6 := row_set (i := 2) (v := .int .i64 1) c5
  refine ⟨.tuple #[fx false 35 1, .int .i64 0], results_cell_cell rfl _ _ (g + 1 + 1) 24 #[.bool false, .int .u64 35, .int .i64 1] (0, 0) _ (g + 1 + 1 + 1) _ rfl rfl ?_ Tryz.underlying24 rfl (by kernel_rfl) ?_, ?_⟩
  · rw [row_far (by omega)]; exact c6
  · have hcell : ((((w7.setCell ⟨g + 1 + 1, 0, none⟩ (.bool false)).setCell ⟨g + 1 + 1, 1, none⟩ (.int .u64 35)).setCell ⟨g + 1 + 1, 2, none⟩ (.int .i64 1)).setCell ⟨g + 1 + 1 + 1, 0, none⟩ (.int .i64 0)).cell? ⟨g + 1 + 1 + 1, 0, none⟩ = some (.int .i64 0) :=
      cell?_setCell_eq rfl (by rw [far3 (by omega) p3]; rfl)
    simp [loadVar, go_sem, hcell]
  · exact ⟨rfl, ((fresh_trans H_hf.out H_hfa.out).set3 (by have := H_hg.out; omega)).setCell (fun h => by have := H_hg.out; change g + 1 + 1 + 1 < w.heap.size at h; omega) _⟩

end Go.Proofs.YtecadiflbfpofaaGreatDoor

/- gvLives: 1.5 and 2 are 3.5. -/
namespace Go.Proofs.YtecadiflbfpofaaGreatDoor
open Go.RowKit

set_option maxRecDepth 20000 in
set_option maxHeartbeats 2000000 in
theorem gvLives_any (w : World) : Calls Tryz.prog 17 #[] w (VRet w (.bool true)) := by
  go_enter Tryz.func17, Tryz.ntmps17
  go_wp2_with (fail)
  refine (FixAdd_lives _).mono ?_
  rintro e w2 ⟨rfl, hf2⟩
  have hf3 := fun o => fresh_trans hf2 ((Keep.refl (fun _ => False) w2).alloc o)
  have H_hf2 := Lib.hid hf2; clear hf2
  have H_hf3 := Lib.hid hf3; clear hf3
  go_wp2_with (fail)
  go_ret
  exact ⟨rfl, H_hf3.out _⟩

end Go.Proofs.YtecadiflbfpofaaGreatDoor
