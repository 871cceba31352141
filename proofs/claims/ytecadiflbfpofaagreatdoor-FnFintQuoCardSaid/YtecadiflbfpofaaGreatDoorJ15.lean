/- FnFintQuo: the quotient of two whole numbers of 64 bits. -/
import Derived.Test.YtecadiflbfpofaaGreatDoorJ10
import Derived.Test.YtecadiflbfpofaaGreatDoorJ13
import Derived.Test.YtecadiflbfpofaaGreatDoorJ14
namespace Go.Proofs.YtecadiflbfpofaaGreatDoor
open Go.RowKit

theorem NatDiv_any (av bv : Value) (al bl : List Nat) (w : World) (ha : SNat w av al) (hb : SNat w bv bl) (hna : Norm al) (hnb : Norm bl) (hlen : al.length ≤ 1000) (hb0 : 0 < sval bl) :
    Calls Tryz.prog 20 #[av, bv] w (QRet w (sval al / sval bl) (sval al % sval bl)) := by
  rcases Nat.lt_or_ge (sval al) (sval bl) with h | h
  · rw [Nat.div_eq_of_lt h, Nat.mod_eq_of_lt h]
    exact NatDiv_less av bv al bl w ha hb hna hnb hlen h
  · by_cases h1 : 1 < bl.length
    · exact NatDiv_long av bv al bl w ha hb hna hnb hlen h1 h
    · match bl, hb, hnb, hb0, h, h1 with
      | [], _, _, hb0, _, _ => simp [sval] at hb0
      | [b], hb, _, hb0, h, _ =>
        have e : sval [b] = b := by simp [sval]
        rw [e] at hb0 h ⊢
        exact NatDiv_one av bv al b w ha hb hna hb0 hlen h
      | _ :: _ :: _, _, _, _, _, h1 => simp at h1

/-- a quotient or what is told when it is not whole -/
def quoTo (x y : Nat) : Value := if x % y = 0 then .tuple #[.int .u64 ((x / y : Nat) : Int), .bool true] else .tuple #[.int .u64 0, .bool false]

set_option maxRecDepth 20000 in
theorem fquo_any (x y : Nat) (w : World) (hx : x ≤ 9999999999999999999) (hy0 : 0 < y) (hy : y ≤ 9999999999999999999) :
    Calls Tryz.prog 76 #[.int .u64 x, .int .u64 y] w (VRet w (quoTo x y)) := by
  have t0 : ((y : Int) == 0) = false := by rw [beq_eq_false_iff_ne]; omega
  have hyN : ¬ y = 0 := by omega
  have hdiv : Int.tdiv (x : Int) (y : Int) = ((x / y : Nat) : Int) := by rw [Int.tdiv_eq_ediv_of_nonneg (by omega)]; rfl
  have hdw : IntKind.u64.wrap ((x / y : Nat) : Int) = ((x / y : Nat) : Int) := wrap_u64n _ (by have := Nat.div_le_self x y; omega)
  have hdm := Nat.div_add_mod x y
  obtain ⟨q, hq⟩ : ∃ q, q = x / y := ⟨_, rfl⟩
  obtain ⟨p, hp⟩ : ∃ p, p = q * y := ⟨_, rfl⟩
  have hmod := Nat.mod_lt x hy0
  have hpx : p + x % y = x := by rw [hp, hq, Nat.mul_comm]; exact hdm
  have hmulI : IntKind.u64.wrap ((q : Int) * (y : Int)) = (p : Int) := by
    have e : (q : Int) * (y : Int) = ((q * y : Nat) : Int) := by simp
    rw [e, ← hp]
    exact wrap_u64n _ (by omega)
  by_cases h0 : x % y = 0
  · have hr : quoTo x y = .tuple #[.int .u64 q, .bool true] := by unfold quoTo; rw [if_pos h0, hq]
    rw [hr]
    have hpe : p = x := by omega
    rw [← hq] at hdiv hdw
    rw [hpe] at hmulI
    clear hdm hp hmod hpx h0 hr hpe hq hy0
    go_enter Tryz.func76, Tryz.ntmps76
    go_wp2
    go_ret2
    exact ⟨rfl, Keep.refl _ _⟩
  · have hr : quoTo x y = .tuple #[.int .u64 0, .bool false] := by unfold quoTo; rw [if_neg h0]
    rw [hr]
    have hpe : ¬ p = x := by omega
    have t1 : ((p : Int) == (x : Int)) = false := by rw [beq_eq_false_iff_ne]; omega
    rw [← hq] at hdiv hdw
    clear hdm hp hmod hpx h0 hr hq hy0
    go_enter Tryz.func76, Tryz.ntmps76
    go_wp2
    go_ret2
    exact ⟨rfl, Keep.refl _ _⟩

theorem quoTo_cases (x y : Nat) : (x % y = 0 ∧ quoTo x y = .tuple #[.int .u64 ((x / y : Nat) : Int), .bool true]) ∨ (¬ x % y = 0 ∧ quoTo x y = .tuple #[.int .u64 0, .bool false]) := by
  unfold quoTo
  split
  · exact .inl ⟨by assumption, rfl⟩
  · exact .inr ⟨by assumption, rfl⟩

set_option maxRecDepth 20000 in
theorem ZzFintQuo_any (x y : Nat) (w : World) (hx : x ≤ 9999999999999999999) (hy0 : 0 < y) (hy : y ≤ 9999999999999999999) :
    Calls Tryz.prog 47 #[.int .u64 x, .int .u64 y] w (VRet w (quoTo x y)) := by
  have hcall := fun W => fquo_any x y W hx hy0 hy
  rcases quoTo_cases x y with ⟨_, h⟩ | ⟨_, h⟩
  · rw [h] at hcall ⊢
    clear hx hy0 hy h
    generalize x / y = q at *
    have H_hcall := Lib.hid hcall; clear hcall
    go_enter Tryz.func47, Tryz.ntmps47
    go_wp2_with (fail)
    refine (H_hcall.out _).mono ?_
    rintro e w2 ⟨rfl, f2⟩
    have H_f2 := Lib.hid f2; clear f2
    go_wp2_with (fail)
    go_ret2
    exact ⟨rfl, H_f2.out⟩
  · rw [h] at hcall ⊢
    clear hx hy0 hy h
    have H_hcall := Lib.hid hcall; clear hcall
    go_enter Tryz.func47, Tryz.ntmps47
    go_wp2_with (fail)
    refine (H_hcall.out _).mono ?_
    rintro e w2 ⟨rfl, f2⟩
    have H_f2 := Lib.hid f2; clear f2
    go_wp2_with (fail)
    go_ret2
    exact ⟨rfl, H_f2.out⟩

set_option maxRecDepth 20000 in
theorem FintQuo_any (x y : Nat) (w : World) (hx : x ≤ 9999999999999999999) (hy0 : 0 < y) (hy : y ≤ 9999999999999999999) :
    Calls Tryz.prog 19 #[.int .u64 x, .int .u64 y] w (VRet w (quoTo x y)) := by
  have hcall := fun W => ZzFintQuo_any x y W hx hy0 hy
  have hxl : ¬ 9999999999999999999 < x := by omega
  have t1 : decide ((9999999999999999999 : Int) < (x : Int)) = false := by simp; omega
  have hyl : ¬ 9999999999999999999 < y := by omega
  have t2 : decide ((9999999999999999999 : Int) < (y : Int)) = false := by simp; omega
  rcases quoTo_cases x y with ⟨_, h⟩ | ⟨_, h⟩
  · rw [h] at hcall ⊢
    clear h
    generalize x / y = q at *
    have H_hcall := Lib.hid hcall; clear hcall
    go_enter Tryz.func19, Tryz.ntmps19
    go_wp2_with (fail)
    refine (H_hcall.out _).mono ?_
    rintro e w2 ⟨rfl, f2⟩
    have H_f2 := Lib.hid f2; clear f2
    go_wp2_with (fail)
    go_ret2
    exact ⟨rfl, H_f2.out⟩
  · rw [h] at hcall ⊢
    clear h
    have H_hcall := Lib.hid hcall; clear hcall
    go_enter Tryz.func19, Tryz.ntmps19
    go_wp2_with (fail)
    refine (H_hcall.out _).mono ?_
    rintro e w2 ⟨rfl, f2⟩
    have H_f2 := Lib.hid f2; clear f2
    go_wp2_with (fail)
    go_ret2
    exact ⟨rfl, H_f2.out⟩

set_option maxRecDepth 20000 in
set_option maxHeartbeats 2000000 in
theorem gvMost_two (x y g : Nat) (w : World) (hb : w.heap[g]? = some (.cells #[.int .u64 x, .int .u64 y] 22 (0, 0))) :
    Calls Tryz.prog 18 #[.slice (some ⟨g, 0, none⟩) 2 2] w (VRet w (.bool (decide (x ≤ 9999999999999999999) && decide (y ≤ 9999999999999999999)))) := by
  have k0 := row_cell hb 0
  have k1 := row_cell hb 1
  simp at k0 k1
  clear hb
  go_enter Tryz.func18, Tryz.ntmps18
  go_wp2_with (fail)
  refine wp_loop_rounds 3 ?_
  rw [rounds_succ]
  by_cases h1 : x ≤ 9999999999999999999
  · have t1 : decide ((9999999999999999999 : Int) < (x : Int)) = false := by simp; omega
    have n1 : ¬ 9999999999999999999 < x := by omega
    go_wp2_with (fail)
    rw [rounds_succ]
    by_cases h2 : y ≤ 9999999999999999999
    · have t2 : decide ((9999999999999999999 : Int) < (y : Int)) = false := by simp; omega
      have n2 : ¬ 9999999999999999999 < y := by omega
      go_wp2_with (fail)
      rw [rounds_succ]
      go_wp2_with (fail)
      go_ret
      exact ⟨by simp [h1, h2], Keep.refl _ _⟩
    · have t2 : decide ((9999999999999999999 : Int) < (y : Int)) = true := by simp; omega
      have n2 : 9999999999999999999 < y := by omega
      go_wp2_with (fail)
      go_ret
      exact ⟨by simp [h1, h2], Keep.refl _ _⟩
  · have t1 : decide ((9999999999999999999 : Int) < (x : Int)) = true := by simp; omega
    have n1 : 9999999999999999999 < x := by omega
    go_wp2_with (fail)
    go_ret
    exact ⟨by simp [h1], Keep.refl _ _⟩

set_option maxRecDepth 20000 in
set_option maxHeartbeats 2000000 in
theorem gvWhole_true (z : Nat) (v : Value) (l : List Nat) (w : World) (hz : z ≤ 9999999999999999999) (h : SNat w v l) (hn : Norm l) (hv : sval l = z) :
    Calls Tryz.prog 22 #[.int .u64 z, .bool true, v] w (VRet w (.bool true)) := by
  obtain ⟨p, hp19, hp⟩ := isPrec_ex 19 z (by omega)
  obtain ⟨a, c, rfl⟩ := h.form
  have hl : l.length ≤ 3 := hn.s_len_le (by rw [hv]; have : spow 3 = 1000000000000000000000000000 := rfl; omega)
  have hdig := fun W (hW : Fresh w W) => Digits_any (.slice a l.length c) l p W (h.fresh hW) hn (by omega) (by rw [hv]; exact hp) (by omega)
  generalize hll : l.length = n at *
  have t1 : decide ((19 : Int) < (p : Int)) = false := by simp; omega
  have n1 : ¬ 19 < p := by omega
  have H_hdig := Lib.hid hdig; clear hdig
  have H_h := Lib.hid h; clear h
  have H_hn := Lib.hid hn; clear hn
  have H_hv := Lib.hid hv; clear hv
  have H_hp := Lib.hid hp; clear hp
  have H_hll := Lib.hid hll; clear hll
  go_enter Tryz.func22, Tryz.ntmps22
  go_wp2_with (fail)
  refine (H_hdig.out _ (Keep.refl _ _)).mono ?_
  rintro e w2 ⟨rfl, f2⟩
  have H_f2 := Lib.hid f2; clear f2
  go_wp2_with (fail)
  refine (NatFrom_any z _ (by omega)).mono ?_
  rintro e w3 ⟨v3, l3, rfl, r1, r2, r3, r4⟩
  obtain ⟨a3, c3, rfl⟩ := r1.form
  have f3 := fresh_trans H_f2.out r4
  have hcmp := NatCmp_any (.slice a3 l3.length c3) (.slice a n c) l3 l _ r1 (H_h.out.fresh f3) r2 H_hn.out
  rw [r3, H_hv.out, cmpN_eq] at hcmp
  generalize l3.length = n3 at *
  have H_r1 := Lib.hid r1; clear r1
  have H_r2 := Lib.hid r2; clear r2
  have H_r3 := Lib.hid r3; clear r3
  have H_r4 := Lib.hid r4; clear r4
  have H_f3 := Lib.hid f3; clear f3
  have H_hcmp := Lib.hid hcmp; clear hcmp
  go_wp2_with (fail)
  refine H_hcmp.out.mono ?_
  rintro e w4 ⟨rfl, nq, hnq⟩
  have hf : Fresh w3 w4 := by rw [hnq]; exact (Keep.refl _ _).drewN nq
  clear hnq
  have H_hf := Lib.hid hf; clear hf
  go_wp2_with (fail)
  go_ret
  exact ⟨rfl, fresh_trans H_f3.out H_hf.out⟩

end Go.Proofs.YtecadiflbfpofaaGreatDoor

/- FnFintQuo's walk. -/
namespace Go.Proofs.YtecadiflbfpofaaGreatDoor
open Go.RowKit

theorem box_u64 (w : World) (x y : Nat) (g : Nat) (hg : g = w.heap.size) : ∀ w1, w.alloc (.cells #[.int .u64 x, .int .u64 y] 22) = w1 → w1.heap[g]? = some (.cells #[.int .u64 x, .int .u64 y] 22 (0, 0)) ∧ Fresh w w1 := by
  rintro w1 rfl
  subst hg
  exact ⟨heap_alloc_new w _, (Keep.refl _ _).alloc _⟩

set_option maxRecDepth 20000 in
set_option maxHeartbeats 2000000 in
theorem FnFintQuo_out (x y : Nat) (w : World) (h : ¬ (x ≤ 9999999999999999999 ∧ 0 < y ∧ y ≤ 9999999999999999999)) :
    Calls Tryz.prog 4 #[.int .u64 x, .int .u64 y] w (VRet w (.bool true)) := by
  obtain ⟨g, hg⟩ : ∃ g, g = w.heap.size := ⟨_, rfl⟩
  have bx := box_u64 w x y g hg
  by_cases hm : x ≤ 9999999999999999999 ∧ y ≤ 9999999999999999999
  · obtain rfl : y = 0 := by omega
    have hr : (decide (x ≤ 9999999999999999999) && decide (0 ≤ 9999999999999999999)) = true := by simp; omega
    have H_bx := Lib.hid bx; clear bx
    have H_h := Lib.hid h; clear h
    have H_hm := Lib.hid hm; clear hm
    have H_hr := Lib.hid hr; clear hr
    go_enter Tryz.func4, Tryz.ntmps4
    go_wp2_with (fail)
    generalize hw1 : w.alloc _ = w1
    rw [← hg]
    obtain ⟨b1, hf⟩ := H_bx.out w1 hw1
    refine (gvMost_two x 0 g _ b1).mono ?_
    rintro e w2 ⟨rfl, f2⟩
    rw [H_hr.out]
    have H_b1 := Lib.hid b1; clear b1
    have H_hf := Lib.hid hf; clear hf
    have H_hw1 := Lib.hid hw1; clear hw1
    have H_hg := Lib.hid hg; clear hg
    have H_f2 := Lib.hid f2; clear f2
    go_wp2_with (fail)
    go_ret
    exact ⟨rfl, fresh_trans H_hf.out H_f2.out⟩
  · have hr : (decide (x ≤ 9999999999999999999) && decide (y ≤ 9999999999999999999)) = false := by simp; omega
    have H_bx := Lib.hid bx; clear bx
    have H_h := Lib.hid h; clear h
    have H_hm := Lib.hid hm; clear hm
    have H_hr := Lib.hid hr; clear hr
    go_enter Tryz.func4, Tryz.ntmps4
    go_wp2_with (fail)
    generalize hw1 : w.alloc _ = w1
    rw [← hg]
    obtain ⟨b1, hf⟩ := H_bx.out w1 hw1
    refine (gvMost_two x y g _ b1).mono ?_
    rintro e w2 ⟨rfl, f2⟩
    rw [H_hr.out]
    have H_b1 := Lib.hid b1; clear b1
    have H_hf := Lib.hid hf; clear hf
    have H_hw1 := Lib.hid hw1; clear hw1
    have H_hg := Lib.hid hg; clear hg
    have H_f2 := Lib.hid f2; clear f2
    go_wp2_with (fail)
    go_ret
    exact ⟨rfl, fresh_trans H_hf.out H_f2.out⟩

set_option maxRecDepth 20000 in
set_option maxHeartbeats 2000000 in
theorem FnFintQuo_main (x y : Nat) (w : World) (hx : x ≤ 9999999999999999999) (hy0 : 0 < y) (hy : y ≤ 9999999999999999999) :
    Calls Tryz.prog 4 #[.int .u64 x, .int .u64 y] w (VRet w (.bool true)) := by
  obtain ⟨g, hg⟩ : ∃ g, g = w.heap.size := ⟨_, rfl⟩
  have bx := box_u64 w x y g hg
  have hr : (decide (x ≤ 9999999999999999999) && decide (y ≤ 9999999999999999999)) = true := by simp; omega
  have t0 : ((y : Int) == 0) = false := by rw [beq_eq_false_iff_ne]; omega
  have n0 : ¬ y = 0 := by omega
  have hcall := fun W => FintQuo_any x y W hx hy0 hy
  have hxq := Nat.div_le_self x y
  rcases quoTo_cases x y with ⟨hmod, h⟩ | ⟨hmod, h⟩
  · rw [h] at hcall
    obtain ⟨q, hq⟩ : ∃ q, q = x / y := ⟨_, rfl⟩
    rw [← hq] at hcall hxq h
    have H_hq := Lib.hid hq; clear hq
    have H_bx := Lib.hid bx; clear bx
    have H_hr := Lib.hid hr; clear hr
    have H_hcall := Lib.hid hcall; clear hcall
    have H_h := Lib.hid h; clear h
    have H_hmod := Lib.hid hmod; clear hmod
    have H_hx := Lib.hid hx; clear hx
    have H_hy := Lib.hid hy; clear hy
    have H_hy0 := Lib.hid hy0; clear hy0
    have H_hxq := Lib.hid hxq; clear hxq
    go_enter Tryz.func4, Tryz.ntmps4
    go_wp2_with (fail)
    generalize hw1 : w.alloc _ = w1
    rw [← hg]
    obtain ⟨b1, hf⟩ := H_bx.out w1 hw1
    refine (gvMost_two x y g _ b1).mono ?_
    rintro e w2 ⟨rfl, f2⟩
    rw [H_hr.out]
    have f3 := fresh_trans hf f2
    have H_b1 := Lib.hid b1; clear b1
    have H_hf := Lib.hid hf; clear hf
    have H_hw1 := Lib.hid hw1; clear hw1
    have H_hg := Lib.hid hg; clear hg
    have H_f2 := Lib.hid f2; clear f2
    have H_f3 := Lib.hid f3; clear f3
    go_wp2_with (fail)
    refine (H_hcall.out _).mono ?_
    rintro e w3 ⟨rfl, f4⟩
    have f5 := fresh_trans H_f3.out f4
    have H_f4 := Lib.hid f4; clear f4
    have H_f5 := Lib.hid f5; clear f5
    go_wp2_with (fail)
    refine (NatFrom_any x _ (by have := H_hx.out; omega)).mono ?_
    rintro e w4 ⟨xv, xl, rfl, x1, x2, x3, x4⟩
    have f6 := fresh_trans H_f5.out x4
    have hxl : xl.length ≤ 3 := x2.s_len_le (by rw [x3]; have := H_hx.out; have : spow 3 = 1000000000000000000000000000 := rfl; omega)
    obtain ⟨ax, cx, rfl⟩ := x1.form
    have H_x1 := Lib.hid x1; clear x1
    have H_x2 := Lib.hid x2; clear x2
    have H_x3 := Lib.hid x3; clear x3
    have H_x4 := Lib.hid x4; clear x4
    have H_f6 := Lib.hid f6; clear f6
    have H_hxl := Lib.hid hxl; clear hxl
    go_wp2_with (fail)
    refine (NatFrom_any y _ (by have := H_hy.out; omega)).mono ?_
    rintro e w5 ⟨yv, yl, rfl, y1, y2, y3, y4⟩
    have f7 := fresh_trans H_f6.out y4
    obtain ⟨ay, cy, rfl⟩ := y1.form
    have hnd := NatDiv_any _ _ xl yl _ (H_x1.out.fresh y4) y1 H_x2.out y2 (by have := H_hxl.out; omega) (by rw [y3]; exact H_hy0.out)
    rw [y3, H_x3.out, H_hmod.out, ← H_hq.out] at hnd
    have H_y1 := Lib.hid y1; clear y1
    have H_y2 := Lib.hid y2; clear y2
    have H_y3 := Lib.hid y3; clear y3
    have H_y4 := Lib.hid y4; clear y4
    have H_f7 := Lib.hid f7; clear f7
    have H_hnd := Lib.hid hnd; clear hnd
    go_wp2_with (fail)
    refine H_hnd.out.mono ?_
    rintro e w6 ⟨qv, rv, ql, rl, rfl, q1, q2, q3, r1, r2, r3, f8⟩
    have hrl : rl.length = 0 := by have := r2.s_len_le (k := 0) (by rw [r3]; exact spow_pos 0); omega
    obtain ⟨aq, cq, rfl⟩ := q1.form
    obtain ⟨ar, cr, rfl⟩ := r1.form
    rw [hrl] at r1 ⊢
    have f9 := fresh_trans H_f7.out f8
    have hgw := gvWhole_true q _ ql w6 (by have := H_hxq.out; have := H_hx.out; omega) q1 q2 q3
    generalize ql.length = nq at *
    have H_q1 := Lib.hid q1; clear q1
    have H_q2 := Lib.hid q2; clear q2
    have H_q3 := Lib.hid q3; clear q3
    have H_r1 := Lib.hid r1; clear r1
    have H_r2 := Lib.hid r2; clear r2
    have H_r3 := Lib.hid r3; clear r3
    have H_f8 := Lib.hid f8; clear f8
    have H_f9 := Lib.hid f9; clear f9
    have H_hgw := Lib.hid hgw; clear hgw
    have H_hrl := Lib.hid hrl; clear hrl
    go_wp2_with (fail)
    refine H_hgw.out.mono ?_
    rintro e w7 ⟨rfl, f10⟩
    have H_f10 := Lib.hid f10; clear f10
    go_wp2_with (fail)
    go_ret
    exact ⟨rfl, fresh_trans H_f9.out H_f10.out⟩
  · rw [h] at hcall
    have H_bx := Lib.hid bx; clear bx
    have H_hr := Lib.hid hr; clear hr
    have H_hcall := Lib.hid hcall; clear hcall
    have H_h := Lib.hid h; clear h
    have H_hmod := Lib.hid hmod; clear hmod
    have H_hx := Lib.hid hx; clear hx
    have H_hy := Lib.hid hy; clear hy
    have H_hy0 := Lib.hid hy0; clear hy0
    have H_hxq := Lib.hid hxq; clear hxq
    go_enter Tryz.func4, Tryz.ntmps4
    go_wp2_with (fail)
    generalize hw1 : w.alloc _ = w1
    rw [← hg]
    obtain ⟨b1, hf⟩ := H_bx.out w1 hw1
    refine (gvMost_two x y g _ b1).mono ?_
    rintro e w2 ⟨rfl, f2⟩
    rw [H_hr.out]
    have f3 := fresh_trans hf f2
    have H_b1 := Lib.hid b1; clear b1
    have H_hf := Lib.hid hf; clear hf
    have H_hw1 := Lib.hid hw1; clear hw1
    have H_hg := Lib.hid hg; clear hg
    have H_f2 := Lib.hid f2; clear f2
    have H_f3 := Lib.hid f3; clear f3
    go_wp2_with (fail)
    refine (H_hcall.out _).mono ?_
    rintro e w3 ⟨rfl, f4⟩
    have f5 := fresh_trans H_f3.out f4
    have H_f4 := Lib.hid f4; clear f4
    have H_f5 := Lib.hid f5; clear f5
    go_wp2_with (fail)
    refine (NatFrom_any x _ (by have := H_hx.out; omega)).mono ?_
    rintro e w4 ⟨xv, xl, rfl, x1, x2, x3, x4⟩
    have f6 := fresh_trans H_f5.out x4
    have hxl : xl.length ≤ 3 := x2.s_len_le (by rw [x3]; have := H_hx.out; have : spow 3 = 1000000000000000000000000000 := rfl; omega)
    obtain ⟨ax, cx, rfl⟩ := x1.form
    have H_x1 := Lib.hid x1; clear x1
    have H_x2 := Lib.hid x2; clear x2
    have H_x3 := Lib.hid x3; clear x3
    have H_x4 := Lib.hid x4; clear x4
    have H_f6 := Lib.hid f6; clear f6
    have H_hxl := Lib.hid hxl; clear hxl
    go_wp2_with (fail)
    refine (NatFrom_any y _ (by have := H_hy.out; omega)).mono ?_
    rintro e w5 ⟨yv, yl, rfl, y1, y2, y3, y4⟩
    have f7 := fresh_trans H_f6.out y4
    obtain ⟨ay, cy, rfl⟩ := y1.form
    have hnd := NatDiv_any _ _ xl yl _ (H_x1.out.fresh y4) y1 H_x2.out y2 (by have := H_hxl.out; omega) (by rw [y3]; exact H_hy0.out)
    rw [y3, H_x3.out] at hnd
    have H_y1 := Lib.hid y1; clear y1
    have H_y2 := Lib.hid y2; clear y2
    have H_y3 := Lib.hid y3; clear y3
    have H_y4 := Lib.hid y4; clear y4
    have H_f7 := Lib.hid f7; clear f7
    have H_hnd := Lib.hid hnd; clear hnd
    go_wp2_with (fail)
    refine H_hnd.out.mono ?_
    rintro e w6 ⟨qv, rv, ql, rl, rfl, q1, q2, q3, r1, r2, r3, f8⟩
    have hrl : 0 < rl.length := by
      rcases Nat.eq_zero_or_pos rl.length with h | h
      · obtain rfl : rl = [] := List.eq_nil_of_length_eq_zero h
        exact absurd r3.symm (by simpa [sval] using H_hmod.out)
      · exact h
    obtain ⟨aq, cq, rfl⟩ := q1.form
    obtain ⟨ar, cr, rfl⟩ := r1.form
    have f9 := fresh_trans H_f7.out f8
    generalize ql.length = nq at *
    generalize rl.length = nr at *
    have t2 : decide ((0 : Int) < (nr : Int)) = true := by simp; omega
    have H_q1 := Lib.hid q1; clear q1
    have H_q2 := Lib.hid q2; clear q2
    have H_q3 := Lib.hid q3; clear q3
    have H_r1 := Lib.hid r1; clear r1
    have H_r2 := Lib.hid r2; clear r2
    have H_r3 := Lib.hid r3; clear r3
    have H_f8 := Lib.hid f8; clear f8
    have H_f9 := Lib.hid f9; clear f9
    go_wp2_with (fail)
    refine (gvLives_any _).mono ?_
    rintro e w7 ⟨rfl, f10⟩
    have H_f10 := Lib.hid f10; clear f10
    go_wp2_with (fail)
    go_ret
    exact ⟨rfl, fresh_trans H_f9.out H_f10.out⟩

end Go.Proofs.YtecadiflbfpofaaGreatDoor
