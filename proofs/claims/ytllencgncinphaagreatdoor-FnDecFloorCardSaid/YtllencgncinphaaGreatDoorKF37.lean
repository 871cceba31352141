/- Int.Set of signed integers; the thin package: made, dec. -/
import Derived.Laws.FloatArith
import Derived.Laws.Externs
import Derived.Laws.Cover2
import Derived.Test.YtllencgncinphaaGreatDoorKF1
import Derived.Test.YtllencgncinphaaGreatDoorKF8
import Derived.Test.YtllencgncinphaaGreatDoorKF9
import Derived.Test.YtllencgncinphaaGreatDoorKF19
import Derived.Test.YtllencgncinphaaGreatDoorKF32
import Derived.Test.YtllencgncinphaaGreatDoorKF36
namespace Go.Proofs.YtllencgncinphaaGreatDoor
open Go.RowKit Ieee
open Go.Lib (hid)

set_option maxRecDepth 20000 in
set_option maxHeartbeats 2000000 in
theorem made_any (z e : Int) (w : World) (hz : (wdig z).length ≤ 300) (he : -400 ≤ e ∧ e ≤ 400) (hNG : NG ≤ w.heap.size) :
 Calls Tryz.prog 42 #[.agg #[.string (bstr (wdig z)), .int .i64 e]] w (fun r w' => ∃ b v, r = .returned (.tuple #[sd b e, .bool true]) ∧ ZI w' b v z ∧ w.heap.size ≤ b ∧ (∀ k, v.ownBlock = some k → w.heap.size ≤ k) ∧ Fresh w w') := by
 have hw := fun W (hW : Fresh w W) => whole_any z W hz (Nat.le_trans hNG hW.size)
 have hpl := fun W => places_any e W he
 have hmk := fun b W => ZzMake_any b e W
 have hwr : IntKind.i32.wrap e = e := by rw [IntKind.wrap_i32]; omega
 obtain ⟨g, hg⟩ : ∃ g, g = w.heap.size := ⟨_, rfl⟩
 generalize bstr (wdig z) = s at *
 have bx := boxes2 w #[.string s, .int .i64 e] #[.pointer none, .int .i32 0] 23 61 g hg
 have H_bx := hid bx; have H_hw := hid hw; have H_hpl := hid hpl; have H_hmk := hid hmk; have H_hz := hid hz; have H_hNG := hid hNG; clear bx hw hpl hmk hz hNG
 go_enter Tryz.func42, Tryz.ntmps42
 go_wp2_with (fail)
 generalize hw1 : (w.alloc _).alloc _ = w1
 rw [← hg]
 obtain ⟨b1, b2, hf⟩ := H_bx.out w1 hw1
 have k0 := row_cell b1 0
 have k1 := row_cell b1 1
 simp at k0 k1
 have H_b1 := hid b1; have H_b2 := hid b2; have H_hf := hid hf; have H_hw1 := hid hw1; have H_hg := hid hg; clear b1 b2 hf hw1 hg
 go_wp2_with (fail)
 refine (H_hw.out _ H_hf.out).mono ?_
 rintro r w2 ⟨b, v, rfl, z2, g2, o2, f2⟩
 have d1 := row_fresh H_b1.out f2
 clear k0 k1
 have k0 := row_cell d1 0
 have k1 := row_cell d1 1
 simp at k0 k1
 have H_z2 := hid z2; have H_g2 := hid g2; have H_o2 := hid o2; have H_f2 := hid f2; have H_d1 := hid d1; clear z2 g2 o2 f2 d1
 go_wp2_with (fail)
 refine (H_hpl.out _).mono ?_
 rintro r w3 ⟨rfl, hw3⟩
 obtain rfl : w2 = w3 := hw3.symm
 go_wp2_with (fail)
 refine (H_hmk.out b _).mono ?_
 rintro r w4 ⟨rfl, f4⟩
 have d2 := row_fresh H_b2.out (fresh_trans H_f2.out f4)
 have p0 := row_cell d2 0
 have p1 := row_cell d2 1
 simp at p0 p1
 have q0 : w4.frozen? ⟨g + 1, 0, none⟩ = false := frozen_of_row _ _ _ _ _ d2
 have q1 : w4.frozen? ⟨g + 1, 1, none⟩ = false := frozen_of_row _ _ _ _ _ d2
 have H_f4 := hid f4; have H_d2 := hid d2; clear f4 d2
 go_wp2_with (fail)
 refine bodyPost_ret (results_cell_tmp_row rfl _ _ (g + 1) 61 #[.pointer (some ⟨b, 0, none⟩), .int .i32 e] (0, 0) _ rfl (row_set (row_set H_d2.out)) Tryz.underlying61 rfl (by kernel_rfl)) rfl ?_
 have hgw := H_hg.out
 have h1s := H_hf.out.size
 have hlt2 := lt_of_row H_b2.out
 have kk : ∀ u u', Keep (fun k => k = g + 1) w4 ((w4.setCell ⟨g + 1, 0, none⟩ u).setCell ⟨g + 1, 1, none⟩ u') := fun u u' => ((Keep.refl (fun k => k = g + 1) w4).setCell (p := ⟨g + 1, 0, none⟩) (fun _ => rfl) u).setCell (p := ⟨g + 1, 1, none⟩) (fun _ => rfl) u'
 exact ⟨b, v, rfl, (H_z2.out.fresh H_f4.out).keep (kk _ _) (fun h => by have := H_g2.out; omega) (fun k hk h => by have := H_o2.out k hk; omega), Nat.le_trans h1s H_g2.out, fun k hk => Nat.le_trans h1s (H_o2.out k hk),
  ((fresh_trans H_hf.out (fresh_trans H_f2.out H_f4.out)).setCell (p := ⟨g + 1, 0, none⟩) (fun h => by change g + 1 < w.heap.size at h; omega) _).setCell (p := ⟨g + 1, 1, none⟩) (fun h => by change g + 1 < w.heap.size at h; omega) _⟩

set_option maxRecDepth 20000 in
set_option maxHeartbeats 2000000 in
theorem dec_any (b : Nat) (v : Value) (z e : Int) (p : Nat) (w : World) (he : -2147483648 ≤ e ∧ e ≤ 2147483647) (hx : ZI w b v z) (hp : p ≤ 600) (hz : z.natAbs < 10 ^ p) :
 Calls Tryz.prog 44 #[sd b e] w (fun r w' => r = .returned (.agg #[.string (bstr (wdig z)), .int .i64 e]) ∧ Fresh w w') := by
 have hdg := fun W (hW : Fresh w W) => digits_any b v z p W (hx.fresh hW) hp hz
 have hzv := fun W => ZzValue_any b e W
 have hex := fun W => Exponent_any b e W
 have hwr : IntKind.i64.wrap e = e := by rw [IntKind.wrap_i64]; omega
 obtain ⟨g, hg⟩ : ∃ g, g = w.heap.size := ⟨_, rfl⟩
 generalize bstr (wdig z) = s at *
 have bx := boxes2 w #[.pointer (some ⟨b, 0, none⟩), .int .i32 e] #[.string ⟨#[]⟩, .int .i64 0] 61 23 g hg
 have H_bx := hid bx; have H_hdg := hid hdg; have H_hzv := hid hzv; have H_hex := hid hex; have H_hx := hid hx; have H_hz := hid hz; have H_he := hid he; clear bx hdg hzv hex hx hz he
 go_enter Tryz.func44, Tryz.ntmps44
 go_wp2_with (fail)
 generalize hw1 : (w.alloc _).alloc _ = w1
 rw [← hg]
 obtain ⟨b1, b2, hf⟩ := H_bx.out w1 hw1
 have k0 := row_cell b1 0
 have k1 := row_cell b1 1
 simp at k0 k1
 have H_b1 := hid b1; have H_b2 := hid b2; have H_hf := hid hf; have H_hw1 := hid hw1; have H_hg := hid hg; clear b1 b2 hf hw1 hg
 go_region_held3 (fun (w' : World) => w'.cell? ⟨g, 0, none⟩ = some (.pointer (some ⟨b, 0, none⟩)) ∧ w'.cell? ⟨g, 1, none⟩ = some (.int .i32 e)) (first | exact ⟨k0, k1⟩ | exact ⟨m0, m1⟩ | exact ⟨n0, n1⟩ | exact ⟨o0, o1⟩ | exact ⟨(cell?_setCell_ne (.inl (by simp))).trans ((cell?_setCell_ne (.inl (by simp))).trans o0), (cell?_setCell_ne (.inl (by simp))).trans ((cell?_setCell_ne (.inl (by simp))).trans o1)⟩) (first
  | (go_at_call 94; (with_reducible refine (H_hzv.out _).mono ?_); rintro r w2 ⟨rfl, y⟩; have hf2 : Fresh w1 w2 := (by first | exact y | exact y.of_drew | exact y.of_drewN); have m0 := cell_fresh k0 hf2; have m1 := cell_fresh k1 hf2; have H_hf2 := hid hf2; clear y hf2)
  | (go_at_call 93; (with_reducible refine (H_hdg.out _ (fresh_trans H_hf.out H_hf2.out)).mono ?_); rintro r w3 ⟨rfl, y⟩; have n0 := cell_fresh m0 y; have n1 := cell_fresh m1 y; have hf3 := fresh_trans H_hf2.out y; have H_hf3 := hid hf3; clear y hf3)
  | (go_at_call 95; (with_reducible refine (H_hex.out _).mono ?_); rintro r w4 ⟨rfl, y⟩; have o0 := cell_fresh n0 y; have o1 := cell_fresh n1 y; have hf4 := fresh_trans H_hf3.out y; have b3 := row_fresh H_b2.out hf4; have p0 := row_cell b3 0; have p1 := row_cell b3 1; simp at p0 p1; have q0 : w4.frozen? ⟨g + 1, 0, none⟩ = false := frozen_of_row _ _ _ _ _ b3; have q1 : w4.frozen? ⟨g + 1, 1, none⟩ = false := frozen_of_row _ _ _ _ _ b3; have H_hf4 := hid hf4; have H_b3 := hid b3; clear y hf4 b3))
 go_wp2
 refine bodyPost_ret (results_cell_row rfl _ _ (g + 1) 23 #[.string s, .int .i64 e] (0, 0) _ rfl (row_set (row_set H_b3.out)) Tryz.underlying23 rfl (by kernel_rfl)) rfl ?_
 have hgw := H_hg.out
 exact ⟨rfl, ((fresh_trans H_hf.out H_hf4.out).setCell (p := ⟨g + 1, 0, none⟩) (fun h => by change g + 1 < w.heap.size at h; omega) _).setCell (p := ⟨g + 1, 1, none⟩) (fun h => by change g + 1 < w.heap.size at h; omega) _⟩









theorem ten_posI (n : Nat) : (0 : Int) < ((10 ^ n : Nat) : Int) := by
 have : 0 < 10 ^ n := Nat.pow_pos (by omega)
 exact_mod_cast this

end Go.Proofs.YtllencgncinphaaGreatDoor
