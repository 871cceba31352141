/- The contracts of the reference's fractions: Dec.Frac. -/
import Derived.Test.YthemaneoighaoaaGreatDoorSWhC
namespace Go.Proofs.YthemaneoighaoaaGreatDoor
open Go.RowKit

/-- the three cells are a fraction: numerator z, denominator d -/
def SFr (w : World) (x : Value) (z : Int) (d : Nat) : Prop := ∃ neg v l dv dl, x = .agg #[.bool neg, v, dv] ∧ SNat w v l ∧ Norm l ∧ (l = [] → neg = false) ∧ sint neg l = z ∧ SNat w dv dl ∧ Norm dl ∧ sval dl = d

theorem SFr.fresh {w w' : World} {x : Value} {z : Int} {d : Nat} (h : SFr w x z d) (hk : Fresh w w') : SFr w' x z d := by
  obtain ⟨neg, v, l, dv, dl, h1, h2, h3, h4, h5, h6, h7⟩ := h
  exact ⟨neg, v, l, dv, dl, h1, h2.fresh hk, h3, h4, h5, h6.fresh hk, h7⟩

def FRet (w : World) (z : Int) (d : Nat) (e : Ending) (w' : World) : Prop := ∃ x, e = .returned x ∧ SFr w' x z d ∧ Fresh w w'

/-- a number does not lie in a block that begins with something else -/
theorem SNat.off {w : World} {v : Value} {l : List Nat} {g : Nat} {u : Value} (h : SNat w v l) (hc : w.cell? ⟨g, 0, none⟩ = some u) (hu : ∀ n, u ≠ wd .u32 n) : l = [] ∨ v.ownBlock ≠ some g := by
  rcases Nat.eq_zero_or_pos l.length with h0 | h0
  · exact .inl (List.eq_nil_of_length_eq_zero h0)
  · obtain ⟨b, cap, rfl, _, _, _, h4⟩ := h.open_pos h0
    refine .inr (fun e => ?_)
    have e' : b = g := Option.some.inj e
    subst e'
    have := h4 0 h0
    rw [hc] at this
    exact hu _ (Option.some.inj this)

theorem SNat.setOff {w : World} {v : Value} {l : List Nat} {g o : Nat} {x : Value} (h : SNat w v l) (ho : l = [] ∨ v.ownBlock ≠ some g) : SNat (w.setCell ⟨g, o, none⟩ x) v l := by
  refine ⟨h.1, h.2.1, ?_⟩
  rcases h.2.2 with h0 | ⟨b, cap, cur, T, rfl, hg, h1, h2, h3, h4⟩
  · exact .inl h0
  · by_cases hb : b = g
    · subst hb
      rcases ho with rfl | ho
      · exact .inr ⟨b, cap, _, T, rfl, row_set hg, h1, h2, by simp; exact h3, by simp⟩
      · exact absurd rfl ho
    · refine .inr ⟨b, cap, cur, T, rfl, ?_, h1, h2, h3, h4⟩
      simp only [World.setCell, Array.getElem?_modify]
      rw [if_neg (fun e => hb e.symm)]; exact hg

theorem far3 {w : World} {g h o o1 o2 o3 : Nat} {v1 v2 v3 : Value} {u : Option Value} (hne : h ≠ g) (k : w.cell? ⟨h, o, none⟩ = u) : (((w.setCell ⟨g, o1, none⟩ v1).setCell ⟨g, o2, none⟩ v2).setCell ⟨g, o3, none⟩ v3).cell? ⟨h, o, none⟩ = u := by
  rw [cell?_setCell_ne (.inl hne), cell?_setCell_ne (.inl hne), cell?_setCell_ne (.inl hne)]; exact k

theorem Fresh.set3 {w w1 : World} {g : Nat} {o1 o2 o3 : Nat} {v1 v2 v3 : Value} (h : Fresh w w1) (hg : w.heap.size ≤ g) : Fresh w (((w1.setCell ⟨g, o1, none⟩ v1).setCell ⟨g, o2, none⟩ v2).setCell ⟨g, o3, none⟩ v3) :=
  ((h.setCell (fun h => absurd h (by show ¬ g < w.heap.size; omega)) _).setCell (fun h => absurd h (by show ¬ g < w.heap.size; omega)) _).setCell (fun h => absurd h (by show ¬ g < w.heap.size; omega)) _

theorem fresh_trans {a b c : World} (h : Fresh a b) (k : Fresh b c) : Fresh a c := h.trans k (fun _ _ h => h) (fun _ _ h => h)

theorem wrap_nat (n : Nat) (h : n ≤ 1000000) : IntKind.i64.wrap (n : Int) = (n : Int) := by
  rw [IntKind.wrap_i64]; omega

set_option maxRecDepth 20000 in
set_option maxHeartbeats 4000000 in
theorem DecFrac_neg (neg : Bool) (v : Value) (l : List Nat) (n : Nat) (w : World) (h : SNat w v l) (hn : Norm l) (hc : l = [] → neg = false) (h0 : 0 < n) (hb : n ≤ 1000000) :
    Calls Tryz.prog 39 #[.agg #[.bool neg, v, .int .i64 (-(n : Int))]] w (FRet w (sint neg l) (10 ^ n)) := by
  obtain ⟨a, c, rfl⟩ := h.form
  obtain ⟨g, hg⟩ : ∃ g, g = w.heap.size := ⟨_, rfl⟩
  have bx := boxes2 w #[.bool neg, .slice a l.length c, .int .i64 (-(n : Int))] #[.bool false, .slice none 0 0, .slice none 0 0] 31 47 g hg
  have t1 : decide ((0 : Int) ≤ -(n : Int)) = false := by simp; omega
  have t2 : IntKind.i64.wrap (n : Int) = (n : Int) := wrap_nat n hb
  have H_h := Lib.hid h; clear h
  have H_bx := Lib.hid bx; clear bx
  have H_hn := Lib.hid hn; clear hn
  have H_hc := Lib.hid hc; clear hc
  go_enter Tryz.func39, Tryz.ntmps39
  go_wp2_with (fail)
  generalize hw1 : (w.alloc _).alloc _ = w1
  rw [← hg]
  obtain ⟨b1, b2, hf⟩ := H_bx.out w1 hw1
  have k0 := row_cell b1 0
  have k1 := row_cell b1 1
  have k2 := row_cell b1 2
  simp at k0 k1 k2
  have H_b1 := Lib.hid b1; clear b1
  have H_b2 := Lib.hid b2; clear b2
  have H_hf := Lib.hid hf; clear hf
  have H_hw1 := Lib.hid hw1; clear hw1
  have H_hg := Lib.hid hg; clear hg
  go_region_held3 (fun (w' : World) => w'.cell? ⟨g, 0, none⟩ = some (.bool neg) ∧ w'.cell? ⟨g, 1, none⟩ = some (.slice a l.length c) ∧ w'.cell? ⟨g, 2, none⟩ = some (.int .i64 (-(n : Int)))) (first | exact ⟨k0, k1, k2⟩ | exact ⟨m0, m1, m2⟩ | exact ⟨far3 (by omega) m0, far3 (by omega) m1, far3 (by omega) m2⟩) (first
    | (go_at_call 65; (with_reducible refine (Pow10_any n _ hb).mono ?_); rintro e w3 ⟨dv, dl, rfl, r1, r2, r3, r4⟩; have hf3 : Fresh w1 w3 := (by first | exact r4 | exact r4.of_drew | exact r4.of_drewN); obtain ⟨ad, cd, rfl⟩ := r1.form; have m0 := cell_fresh k0 hf3; have m1 := cell_fresh k1 hf3; have m2 := cell_fresh k2 hf3; have b4 := row_fresh H_b2.out hf3; have p0 := row_cell b4 0; have p1 := row_cell b4 1; have p2 := row_cell b4 2; have q0 : w3.frozen? ⟨g + 1, 0, none⟩ = false := frozen_of_row _ _ _ _ _ b4; have q1 : w3.frozen? ⟨g + 1, 1, none⟩ = false := frozen_of_row _ _ _ _ _ b4; have q2 : w3.frozen? ⟨g + 1, 2, none⟩ = false := frozen_of_row _ _ _ _ _ b4; simp at p0 p1 p2; have H_r1 := Lib.hid r1; have H_r2 := Lib.hid r2; have H_r3 := Lib.hid r3; have H_hf3 := Lib.hid hf3; have H_b4 := Lib.hid b4; clear r1 r2 r3 r4 hf3 b4))
  go_wp2
  refine bodyPost_ret (results_cell_row rfl _ _ (g + 1) 47 #[.bool neg, .slice a l.length c, .slice ad dl.length cd] (0, 0) _ rfl (row_set (row_set (row_set H_b4.out))) Tryz.underlying47 rfl (by kernel_rfl)) rfl ?_
  have s1 := (H_h.out.fresh H_hf.out).fresh H_hf3.out
  have f1 := s1.off p0 (fun n e => by simp at e)
  have f2 := H_r1.out.off p0 (fun n e => by simp at e)
  exact ⟨_, rfl, ⟨neg, _, l, _, dl, rfl, ((s1.setOff f1).setOff f1).setOff f1, H_hn.out, H_hc.out, rfl, ((H_r1.out.setOff f2).setOff f2).setOff f2, H_r2.out, H_r3.out⟩, (fresh_trans H_hf.out H_hf3.out).set3 (by have := H_hg.out; omega)⟩

theorem ten_lt (n : Nat) : 10 ^ n < spow (n + 1) := by
  rw [spow_ten]; exact Nat.pow_lt_pow_right (by omega) (by omega)

set_option maxRecDepth 20000 in
set_option maxHeartbeats 4000000 in
theorem DecFrac_pos (neg : Bool) (v : Value) (l : List Nat) (n : Nat) (w : World) (h : SNat w v l) (hlen : l.length ≤ 500000) (hb : n ≤ 1000000) (hb2 : n ≤ 400000) :
    Calls Tryz.prog 39 #[.agg #[.bool neg, v, .int .i64 (n : Int)]] w (FRet w (sint neg l * (10 ^ n : Nat)) 1) := by
  obtain ⟨a, c, rfl⟩ := h.form
  obtain ⟨g, hg⟩ : ∃ g, g = w.heap.size := ⟨_, rfl⟩
  have bx := boxes2 w #[.bool neg, .slice a l.length c, .int .i64 (n : Int)] #[.bool false, .slice none 0 0, .slice none 0 0] 31 47 g hg
  have t1 : decide ((0 : Int) ≤ (n : Int)) = true := by simp
  have H_h := Lib.hid h; clear h
  have H_bx := Lib.hid bx; clear bx
  go_enter Tryz.func39, Tryz.ntmps39
  go_wp2_with (fail)
  generalize hw1 : (w.alloc _).alloc _ = w1
  rw [← hg]
  obtain ⟨b1, b2, hf⟩ := H_bx.out w1 hw1
  have k0 := row_cell b1 0
  have k1 := row_cell b1 1
  have k2 := row_cell b1 2
  simp at k0 k1 k2
  have H_b1 := Lib.hid b1; clear b1
  have H_b2 := Lib.hid b2; clear b2
  have H_hf := Lib.hid hf; clear hf
  have H_hw1 := Lib.hid hw1; clear hw1
  have H_hg := Lib.hid hg; clear hg
  go_region_held3 (fun (w' : World) => w'.cell? ⟨g, 0, none⟩ = some (.bool neg) ∧ w'.cell? ⟨g, 1, none⟩ = some (.slice a l.length c) ∧ w'.cell? ⟨g, 2, none⟩ = some (.int .i64 (n : Int))) (first | exact ⟨k0, k1, k2⟩ | exact ⟨m0, m1, m2⟩ | exact ⟨n0, n1, n2⟩ | exact ⟨o0, o1, o2⟩ | exact ⟨u0, u1, u2⟩ | exact ⟨far3 (by omega) u0, far3 (by omega) u1, far3 (by omega) u2⟩) (first
    | (go_at_call 65; (with_reducible refine (Pow10_any n _ hb).mono ?_); rintro e w3 ⟨dv, dl, rfl, r1, r2, r3, r4⟩; have hf3 : Fresh w1 w3 := (by first | exact r4 | exact r4.of_drew | exact r4.of_drewN); obtain ⟨ad, cd, rfl⟩ := r1.form; have m0 := cell_fresh k0 hf3; have m1 := cell_fresh k1 hf3; have m2 := cell_fresh k2 hf3; have H_r1 := Lib.hid r1; have H_r2 := Lib.hid r2; have H_r3 := Lib.hid r3; have H_hf3 := Lib.hid hf3; clear r1 r2 r3 r4 hf3)
    | (go_at_call 64; (with_reducible refine (NatMul_any _ _ l dl _ ((H_h.out.fresh H_hf.out).fresh H_hf3.out) H_r1.out (by have := H_r2.out.s_len_le (k := n + 1) (by rw [H_r3.out]; exact ten_lt n); omega)).mono ?_); rintro e w4 ⟨pv, pl, rfl, s1, s2, s3, s4⟩; obtain ⟨ap, cp, rfl⟩ := s1.form; have n0 := cell_fresh m0 s4; have n1 := cell_fresh m1 s4; have n2 := cell_fresh m2 s4; have H_s1 := Lib.hid s1; have H_s2 := Lib.hid s2; have H_s3 := Lib.hid s3; have H_s4 := Lib.hid s4; clear s1 s2 s3 s4)
    | (go_at_call 29; (with_reducible refine (wholeOf_any _ _ _ _ H_s1.out).mono ?_); rintro e w5 ⟨rfl, r5⟩; have o0 := cell_fresh n0 r5; have o1 := cell_fresh n1 r5; have o2 := cell_fresh n2 r5; have H_r5 := Lib.hid r5; clear r5)
    | (go_at_call 57; (with_reducible refine (one_any _).mono ?_); rintro e w6 ⟨ov, ol, rfl, t1, t2, t3, t4⟩; obtain ⟨ao, co, rfl⟩ := t1.form; have u0 := cell_fresh o0 t4; have u1 := cell_fresh o1 t4; have u2 := cell_fresh o2 t4; have hf6 := fresh_trans (fresh_trans (fresh_trans H_hf3.out H_s4.out) H_r5.out) t4; have b4 := row_fresh H_b2.out hf6; have p0 := row_cell b4 0; have p1 := row_cell b4 1; have p2 := row_cell b4 2; have q0 : w6.frozen? ⟨g + 1, 0, none⟩ = false := frozen_of_row _ _ _ _ _ b4; have q1 : w6.frozen? ⟨g + 1, 1, none⟩ = false := frozen_of_row _ _ _ _ _ b4; have q2 : w6.frozen? ⟨g + 1, 2, none⟩ = false := frozen_of_row _ _ _ _ _ b4; simp at p0 p1 p2; have H_t1 := Lib.hid t1; have H_t2 := Lib.hid t2; have H_t3 := Lib.hid t3; have H_t4 := Lib.hid t4; have H_hf6 := Lib.hid hf6; have H_b4 := Lib.hid b4; clear t1 t2 t3 t4 hf6 b4))
  go_wp2
  refine bodyPost_ret (results_cell_row rfl _ _ (g + 1) 47 #[.bool (neg && decide (0 < pl.length)), .slice ap pl.length cp, .slice ao ol.length co] (0, 0) _ rfl (row_set (row_set (row_set H_b4.out))) Tryz.underlying47 rfl (by kernel_rfl)) rfl ?_
  have s1 := (H_s1.out.fresh H_r5.out).fresh H_t4.out
  have f1 := s1.off p0 (fun n e => by simp at e)
  have f2 := H_t1.out.off p0 (fun n e => by simp at e)
  have hv := sint_mul (na := neg) (nb := false) H_s3.out H_s2.out
  rw [show (neg != false) = neg by cases neg <;> rfl] at hv
  exact ⟨_, rfl, ⟨_, _, pl, _, ol, rfl, ((s1.setOff f1).setOff f1).setOff f1, H_s2.out, by rintro rfl; simp, by rw [hv]; unfold sint; rw [H_r3.out]; simp, ((H_t1.out.setOff f2).setOff f2).setOff f2, H_t2.out, H_t3.out⟩, (fresh_trans H_hf.out H_hf6.out).set3 (by have := H_hg.out; omega)⟩

end Go.Proofs.YthemaneoighaoaaGreatDoor
