/- The contracts of the reference's fractions: Frac.Abs, WholeOf(1), Int(1), Whole.Sign. -/
import Derived.Test.YthemaneoighaoaaGreatDoorFsE
import Derived.Test.YthemaneoighaoaaGreatDoorMin
namespace Go.Proofs.YthemaneoighaoaaGreatDoor
open Go.RowKit

set_option maxRecDepth 20000 in
theorem FracAbs_any (x : Value) (z : Int) (d : Nat) (w : World) (hx : SFr w x z d) :
    Calls Tryz.prog 23 #[x] w (FRet w (z.natAbs : Int) d) := by
  obtain ⟨nb, v2, l2, dv, dl, rfl, s1, s2, s3, rfl, s5, s6, s7⟩ := hx
  obtain ⟨a2, cc2, rfl⟩ := s1.form
  obtain ⟨a3, cc3, rfl⟩ := s5.form
  obtain ⟨g, hg⟩ : ∃ g, g = w.heap.size := ⟨_, rfl⟩
  have bx := boxes2 w #[.bool nb, .slice a2 l2.length cc2, .slice a3 dl.length cc3] #[.bool false, .slice a2 l2.length cc2, .slice a3 dl.length cc3] 47 47 g hg
  have H_bx := Lib.hid bx; clear bx
  have H_s1 := Lib.hid s1; clear s1
  have H_s2 := Lib.hid s2; clear s2
  have H_s3 := Lib.hid s3; clear s3
  have H_s5 := Lib.hid s5; clear s5
  have H_s6 := Lib.hid s6; clear s6
  have H_s7 := Lib.hid s7; clear s7
  go_enter Tryz.func23, Tryz.ntmps23
  go_wp2_with (fail)
  generalize hw1 : (w.alloc _).alloc _ = w1
  rw [← hg]
  obtain ⟨b1, b2, hf⟩ := H_bx.out w1 hw1
  refine bodyPost_ret (results_cell_row rfl _ _ (g + 1) 47 #[.bool false, .slice a2 l2.length cc2, .slice a3 dl.length cc3] (0, 0) _ rfl b2 Tryz.underlying47 rfl (by kernel_rfl)) rfl ?_
  exact ⟨_, rfl, ⟨false, _, l2, _, dl, rfl, H_s1.out.fresh hf, H_s2.out, fun _ => rfl, by rw [sint_natAbs]; rfl, H_s5.out.fresh hf, H_s6.out, H_s7.out⟩, hf⟩

set_option maxRecDepth 20000 in
theorem WholeOf_pos (n : Nat) (w : World) (hn : n < 9223372036854775808) : Calls Tryz.prog 56 #[.int .i64 n] w (WRet w (n : Int)) := by
  have t1 : decide ((n : Int) < 0) = false := by simp
  obtain ⟨g, hg⟩ : ∃ g, g = w.heap.size := ⟨_, rfl⟩
  have bx := box1 w #[.bool false, .slice none 0 0] 29 g hg
  have hb1 : (n : Int) < 9223372036854775808 := by omega
  have H_bx := Lib.hid bx; clear bx
  go_enter Tryz.func56, Tryz.ntmps56
  go_wp2_with (fail)
  generalize hw1 : w.alloc _ = w1
  rw [← hg]
  obtain ⟨b1, hf⟩ := H_bx.out w1 hw1
  refine (NatFrom_any n _ (by omega)).mono ?_
  rintro e w2 ⟨v, l, rfl, r1, r2, r3, r⟩
  obtain ⟨a, c, rfl⟩ := r1.form
  have b2 := row_fresh b1 r
  have p0 := row_cell b2 0
  have p1 := row_cell b2 1
  simp at p0 p1
  have q0 : w2.frozen? ⟨g, 0, none⟩ = false := frozen_of_row _ _ _ _ _ b2
  have q1 : w2.frozen? ⟨g, 1, none⟩ = false := frozen_of_row _ _ _ _ _ b2
  have H_b1 := Lib.hid b1; clear b1
  have H_b2 := Lib.hid b2; clear b2
  have H_hf := Lib.hid hf; clear hf
  have H_hw1 := Lib.hid hw1; clear hw1
  have H_hg := Lib.hid hg; clear hg
  have H_r := Lib.hid r; clear r
  have H_r1 := Lib.hid r1; clear r1
  have H_r2 := Lib.hid r2; clear r2
  have H_r3 := Lib.hid r3; clear r3
  go_wp2_with (fail)
  refine bodyPost_ret (results_cell_row rfl _ _ g 29 #[.bool false, .slice a l.length c] (0, 0) _ rfl (row_set (row_set H_b2.out)) Tryz.underlying29 rfl (by kernel_rfl)) rfl ?_
  have f1 := H_r1.out.off p0 (fun n e => by simp at e)
  exact ⟨_, rfl, ⟨false, _, l, rfl, (H_r1.out.setOff f1).setOff f1, H_r2.out, fun _ => rfl, by simp [sint, H_r3.out]⟩, ((fresh_trans H_hf.out H_r.out).setCell (fun h => by have := H_hg.out; change g < w.heap.size at h; omega) _).setCell (fun h => by have := H_hg.out; change g < w.heap.size at h; omega) _⟩

set_option maxRecDepth 20000 in
theorem Int_pos (n : Nat) (w : World) (hn : n < 9223372036854775808) : Calls Tryz.prog 25 #[.int .i64 n] w (FRet w (n : Int) 1) := by
  obtain ⟨g, hg⟩ : ∃ g, g = w.heap.size := ⟨_, rfl⟩
  have bx := box1 w #[.bool false, .slice none 0 0, .slice none 0 0] 47 g hg
  have H_bx := Lib.hid bx; clear bx
  go_enter Tryz.func25, Tryz.ntmps25
  go_wp2_with (fail)
  generalize hw1 : w.alloc _ = w1
  rw [← hg]
  obtain ⟨b1, hf⟩ := H_bx.out w1 hw1
  have H_b1 := Lib.hid b1; clear b1
  have H_hf := Lib.hid hf; clear hf
  have H_hw1 := Lib.hid hw1; clear hw1
  have H_hg := Lib.hid hg; clear hg
  refine (WholeOf_pos n _ hn).mono ?_
  rintro e w2 ⟨x, rfl, ⟨nb, v, l, rfl, r1, r2, r3, r4⟩, r⟩
  obtain ⟨a, c, rfl⟩ := r1.form
  have H_r := Lib.hid r; clear r
  have H_r1 := Lib.hid r1; clear r1
  have H_r2 := Lib.hid r2; clear r2
  have H_r3 := Lib.hid r3; clear r3
  have H_r4 := Lib.hid r4; clear r4
  go_wp2_with (fail)
  refine (one_any _).mono ?_
  rintro e w3 ⟨ov, ol, rfl, t1, t2, t3, t4⟩
  obtain ⟨ao, co, rfl⟩ := t1.form
  have hfa := fresh_trans H_r.out t4
  have b2 := row_fresh H_b1.out hfa
  have p0 := row_cell b2 0
  have p1 := row_cell b2 1
  have p2 := row_cell b2 2
  simp at p0 p1 p2
  have q0 : w3.frozen? ⟨g, 0, none⟩ = false := frozen_of_row _ _ _ _ _ b2
  have q1 : w3.frozen? ⟨g, 1, none⟩ = false := frozen_of_row _ _ _ _ _ b2
  have q2 : w3.frozen? ⟨g, 2, none⟩ = false := frozen_of_row _ _ _ _ _ b2
  have s1 := H_r1.out.fresh t4
  have H_b2 := Lib.hid b2; clear b2
  have H_hfa := Lib.hid hfa; clear hfa
  have H_s1 := Lib.hid s1; clear s1
  have H_t1 := Lib.hid t1; clear t1
  have H_t2 := Lib.hid t2; clear t2
  have H_t3 := Lib.hid t3; clear t3
  have H_t4 := Lib.hid t4; clear t4
  go_wp2_with (fail)
  refine bodyPost_ret (results_cell_row rfl _ _ g 47 #[.bool nb, .slice a l.length c, .slice ao ol.length co] (0, 0) _ rfl (row_set (row_set (row_set H_b2.out))) Tryz.underlying47 rfl (by kernel_rfl)) rfl ?_
  have f1 := H_s1.out.off p0 (fun n e => by simp at e)
  have f2 := H_t1.out.off p0 (fun n e => by simp at e)
  exact ⟨_, rfl, ⟨nb, _, l, _, ol, rfl, ((H_s1.out.setOff f1).setOff f1).setOff f1, H_r2.out, H_r3.out, H_r4.out, ((H_t1.out.setOff f2).setOff f2).setOff f2, H_t2.out, H_t3.out⟩, (fresh_trans H_hf.out H_hfa.out).set3 (by have := H_hg.out; omega)⟩

set_option maxRecDepth 20000 in
theorem WholeSign_any (x : Value) (z : Int) (w : World) (h : SWh w x z) : Calls Tryz.prog 26 #[x] w (IRet w (cmpZ z 0)) := by
  obtain ⟨neg, v, l, rfl, h1, h2, h3, h4⟩ := h
  obtain ⟨a, c, rfl⟩ := h1.form
  have hx : SWh w (swh neg (.slice a l.length c)) z := ⟨neg, _, l, rfl, h1, h2, h3, h4⟩
  clear h1 h2 h3 h4
  have H_hx := Lib.hid hx; clear hx
  go_enter Tryz.func26, Tryz.ntmps26
  go_wp2_with (fail)
  refine (WholeCmp_any _ _ z 0 _ (H_hx.out.fresh ((Keep.refl _ _).alloc _)) ⟨false, _, [], rfl, SNat.nil _, Norm.nil, fun _ => rfl, rfl⟩).mono ?_
  rintro e w2 ⟨rfl, hf⟩
  have H_hf := Lib.hid (fresh_trans ((Keep.refl _ _).alloc _) hf)
  clear hf
  go_wp2_with (fail)
  go_ret
  exact ⟨rfl, H_hf.out⟩

end Go.Proofs.YthemaneoighaoaaGreatDoor
