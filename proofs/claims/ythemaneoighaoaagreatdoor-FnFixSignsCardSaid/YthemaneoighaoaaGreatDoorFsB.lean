/- The contracts of the reference on govalues' decimals: Minus, FixDec, FixNum. -/
import Derived.Test.YthemaneoighaoaaGreatDoorFs
namespace Go.Proofs.YthemaneoighaoaaGreatDoor
open Go.RowKit

set_option maxRecDepth 20000 in
theorem Minus_any (neg : Bool) (v : Value) (l : List Nat) (w : World) (h : SNat w v l) :
    Calls Tryz.prog 8 #[swh neg v] w (fun e w' => e = .returned (swh (!neg && decide (0 < l.length)) v) ∧ Fresh w w') := by
  obtain ⟨a, c, rfl⟩ := h.form
  obtain ⟨g, hg⟩ : ∃ g, g = w.heap.size := ⟨_, rfl⟩
  have bx := boxes2 w #[.bool neg, .slice a l.length c] #[.bool false, .slice none 0 0] 29 29 g hg
  have H_h := Lib.hid h; clear h
  have H_bx := Lib.hid bx; clear bx
  go_enter Tryz.func8, Tryz.ntmps8
  go_wp2_with (fail)
  generalize hw1 : (w.alloc _).alloc _ = w1
  rw [← hg]
  obtain ⟨b1, b2, hf⟩ := H_bx.out w1 hw1
  refine (wholeOf_any _ _ _ _ (H_h.out.fresh hf)).mono ?_
  rintro e w2 ⟨rfl, hf2⟩
  have b3 := row_fresh b2 hf2
  have p0 := row_cell b3 0
  have p1 := row_cell b3 1
  simp at p0 p1
  have q0 : w2.frozen? ⟨g + 1, 0, none⟩ = false := frozen_of_row _ _ _ _ _ b3
  have q1 : w2.frozen? ⟨g + 1, 1, none⟩ = false := frozen_of_row _ _ _ _ _ b3
  have H_b1 := Lib.hid b1; clear b1
  have H_b2 := Lib.hid b2; clear b2
  have H_b3 := Lib.hid b3; clear b3
  have H_hf := Lib.hid hf; clear hf
  have H_hf2 := Lib.hid hf2; clear hf2
  have H_hw1 := Lib.hid hw1; clear hw1
  have H_hg := Lib.hid hg; clear hg
  go_wp2_with (fail)
  refine bodyPost_ret (results_cell_row rfl _ _ (g + 1) 29 #[.bool (!neg && decide (0 < l.length)), .slice a l.length c] (0, 0) _ rfl (row_set (row_set H_b3.out)) Tryz.underlying29 rfl (by kernel_rfl)) rfl ?_
  exact ⟨rfl, ((fresh_trans H_hf.out H_hf2.out).setCell (fun h => by have := H_hg.out; change g + 1 < w.heap.size at h; omega) _).setCell (fun h => by have := H_hg.out; change g + 1 < w.heap.size at h; omega) _⟩

/-- the call returns the decimal number of a decimal -/
def DRet (w : World) (neg : Bool) (c s : Nat) (e : Ending) (w' : World) : Prop :=
  ∃ v l, e = .returned (.agg #[.bool (neg && decide (0 < l.length)), v, .int .i64 (-(s : Int))]) ∧ SNat w' v l ∧ Norm l ∧ sval l = c ∧ Fresh w w'

set_option maxRecDepth 20000 in
set_option maxHeartbeats 2000000 in
theorem FixDec_any (neg : Bool) (c s : Nat) (w : World) (hs : s ≤ 19) (hc : c ≤ 9999999999999999999) :
    Calls Tryz.prog 7 #[fx neg c s] w (DRet w neg c s) := by
  have t1 : IntKind.i64.wrap (-(s : Int)) = -(s : Int) := by rw [IntKind.wrap_i64]; omega
  obtain ⟨g, hg⟩ : ∃ g, g = w.heap.size := ⟨_, rfl⟩
  have bx := boxes2 w #[.bool neg, .int .u64 c, .int .i64 s] #[.bool false, .slice none 0 0, .int .i64 0] 24 31 g hg
  have H_bx := Lib.hid bx; clear bx
  go_enter Tryz.func7, Tryz.ntmps7
  go_wp2_with (fail)
  generalize hw1 : (w.alloc _).alloc _ = w1
  rw [← hg]
  obtain ⟨b1, b2, hf⟩ := H_bx.out w1 hw1
  have k0 := row_cell b1 0
  have k1 := row_cell b1 1
  have k2 := row_cell b1 2
  simp at k0 k1 k2
  have H_b1 := Lib.hid b1; clear b1
  have H_b2 := Lib.hid b2; clear b2
  have H_hf := Lib.hid hf; clear hf
  have H_hw1 := Lib.hid hw1; clear hw1
  have H_hg := Lib.hid hg; clear hg
  go_region_held3 (fun (w' : World) => w'.cell? ⟨g, 0, none⟩ = some (.bool neg) ∧ w'.cell? ⟨g, 1, none⟩ = some (.int .u64 c) ∧ w'.cell? ⟨g, 2, none⟩ = some (.int .i64 s)) (first | exact ⟨k0, k1, k2⟩ | exact ⟨m0, m1, m2⟩ | exact ⟨n0, n1, n2⟩ | exact ⟨far3 (by omega) n0, far3 (by omega) n1, far3 (by omega) n2⟩) (first
    | (go_at_call 27; (with_reducible refine (NatFrom_any c _ (by omega)).mono ?_); rintro e w2 ⟨v, l, rfl, r1, r2, r3, r⟩; obtain ⟨a, cc, rfl⟩ := r1.form; have hf0 : Fresh w1 w2 := (by first | exact r | exact r.of_drew | exact r.of_drewN); have m0 := cell_fresh k0 hf0; have m1 := cell_fresh k1 hf0; have m2 := cell_fresh k2 hf0; have H_r1 := Lib.hid r1; have H_r2 := Lib.hid r2; have H_r3 := Lib.hid r3; have H_hf0 := Lib.hid hf0; clear r1 r2 r3 r hf0)
    | (go_at_call 29; (with_reducible refine (wholeOf_any _ _ _ _ H_r1.out).mono ?_); rintro e w3 ⟨rfl, r⟩; have n0 := cell_fresh m0 r; have n1 := cell_fresh m1 r; have n2 := cell_fresh m2 r; have hfa := fresh_trans H_hf0.out r; have b4 := row_fresh H_b2.out hfa; have p0 := row_cell b4 0; have p1 := row_cell b4 1; have p2 := row_cell b4 2; simp at p0 p1 p2; have q0 : w3.frozen? ⟨g + 1, 0, none⟩ = false := frozen_of_row _ _ _ _ _ b4; have q1 : w3.frozen? ⟨g + 1, 1, none⟩ = false := frozen_of_row _ _ _ _ _ b4; have q2 : w3.frozen? ⟨g + 1, 2, none⟩ = false := frozen_of_row _ _ _ _ _ b4; have H_s1 := Lib.hid (H_r1.out.fresh r); have H_hfa := Lib.hid hfa; have H_b4 := Lib.hid b4; clear hfa b4 r))
  go_wp2
  refine bodyPost_ret (results_cell_row rfl _ _ (g + 1) 31 #[.bool (neg && decide (0 < l.length)), .slice a l.length cc, .int .i64 (-(s : Int))] (0, 0) _ rfl (row_set (row_set (row_set H_b4.out))) Tryz.underlying31 rfl (by kernel_rfl)) rfl ?_
  have f1 := H_s1.out.off p0 (fun n e => by simp at e)
  exact ⟨_, l, rfl, ((H_s1.out.setOff f1).setOff f1).setOff f1, H_r2.out, H_r3.out, (fresh_trans H_hf.out H_hfa.out).set3 (by have := H_hg.out; omega)⟩

theorem DecFrac_any (neg : Bool) (v : Value) (l : List Nat) (s : Nat) (w : World) (h : SNat w v l) (hn : Norm l) (hc : l = [] → neg = false) (hs : s ≤ 1000) (hl : l.length ≤ 1000) :
    Calls Tryz.prog 39 #[.agg #[.bool neg, v, .int .i64 (-(s : Int))]] w (FRet w (sint neg l) (10 ^ s)) := by
  by_cases h0 : s = 0
  · subst h0
    have := DecFrac_pos neg v l 0 w h (by omega) (by omega) (by omega)
    rw [show sint neg l * ((10 ^ 0 : Nat) : Int) = sint neg l by simp] at this
    exact this
  · exact DecFrac_neg neg v l s w h hn hc (by omega) (by omega)

end Go.Proofs.YthemaneoighaoaaGreatDoor
