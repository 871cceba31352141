/- The contract of the laws' word gvNear. -/
import Derived.Test.YtmgidnjpkbgmgabGreatDoorKB14
import Derived.Test.YtmgidnjpkbgmgabGreatDoorKB17
namespace Go.Proofs.YtmgidnjpkbgmgabGreatDoor
open Go.RowKit

theorem cmpZ_of_eq {a b : Int} (h : a = b) : cmpZ a b = 0 := by subst h; unfold cmpZ; rw [if_neg (by omega), if_neg (by omega)]

theorem spow_more {m n : Nat} {x : Nat} (h : x < spow m) (hm : m ≤ n) : x < spow n := Nat.lt_of_lt_of_le h (spow_mono hm)

set_option maxRecDepth 20000 in
set_option maxHeartbeats 4000000 in
theorem gvNear_ok (neg : Bool) (c s : Nat) (xw : Value) (z : Int) (d : Nat) (w : World) (hx : SFr w xw z d) (hd : 0 < d) (hz : z.natAbs < spow 300) (hdd : d < spow 300) (hgd : Good z.natAbs d c s) (hcan : neg = true → 0 < c) (hsg : zfix neg c = sgnN z c) :
    Calls Tryz.prog 14 #[fx neg c s, .int .i64 0, xw] w (VRet w (.bool true)) := by
  obtain ⟨na, va, la, dv, dl, rfl, ha, hna, hca, hzz, hda, hdna, hdd0⟩ := hx
  have hx : SFr w (.agg #[.bool na, va, dv]) z d := ⟨na, va, la, dv, dl, rfl, ha, hna, hca, hzz, hda, hdna, hdd0⟩
  obtain ⟨aa, ca, rfl⟩ := ha.form
  obtain ⟨ad, cd, rfl⟩ := hda.form
  clear ha hna hca hda hdna hzz hdd0
  obtain ⟨g, hg⟩ : ∃ g, g = w.heap.size := ⟨_, rfl⟩
  obtain ⟨t, ht, _, hct⟩ := good_top hd hgd
  have hs := hgd.1
  have hc := hgd.2.1
  have hfixed := fun W (hW : Fresh w W) => Fixed_some _ z d t ht W (hx.fresh hW) hd hz hdd
  have ht19 := ht.1
  have hR : rhe (z.natAbs * 10 ^ t) d < spow 400 := rhe_spow hz ht19
  have hq : cmpZ (zfix neg c * ((10 ^ t : Nat) : Int)) (sgnN z (rhe (z.natAbs * 10 ^ t) d) * ((10 ^ s : Nat) : Int)) = 0 := cmpZ_of_eq (by rw [hsg, sgnN_mul, sgnN_mul, hct])
  have bx := boxes2 w #[.bool neg, .int .u64 c, .int .i64 s] #[.bool na, .slice aa la.length ca, .slice ad dl.length cd] 24 39 g hg
  clear hgd ht hct hd hz hdd
  have H_bx := Lib.hid bx; clear bx
  have H_hfixed := Lib.hid hfixed; clear hfixed
  have H_hx := Lib.hid hx; clear hx
  have H_hcan := Lib.hid hcan; clear hcan
  have H_hsg := Lib.hid hsg; clear hsg
  have H_hs := Lib.hid hs; clear hs
  have H_hc := Lib.hid hc; clear hc
  have H_ht19 := Lib.hid ht19; clear ht19
  have H_hR := Lib.hid hR; clear hR
  have H_hq := Lib.hid hq; clear hq
  go_enter Tryz.func14, Tryz.ntmps14
  go_wp2_with (fail)
  generalize hw1 : (w.alloc _).alloc _ = w1
  rw [← hg]
  obtain ⟨b1, b2, hf⟩ := H_bx.out w1 hw1
  have k0 := row_cell b2 0
  have k1 := row_cell b2 1
  have k2 := row_cell b2 2
  simp at k0 k1 k2
  have H_b1 := Lib.hid b1; clear b1
  have H_b2 := Lib.hid b2; clear b2
  have H_hf := Lib.hid hf; clear hf
  have H_hw1 := Lib.hid hw1; clear hw1
  have H_hg := Lib.hid hg; clear hg
  go_wp2_with (fail)
  refine (H_hfixed.out _ H_hf.out).mono ?_
  rintro e w2 ⟨x, rfl, ⟨nb, v, l, rfl, s1, s2, s3, s4⟩, f2⟩
  obtain ⟨al, cl, rfl⟩ := s1.form
  obtain ⟨h, hh⟩ : ∃ h, h = w2.heap.size := ⟨_, rfl⟩
  clear k0 k1 k2
  have H_s1 := Lib.hid s1; clear s1
  have H_s2 := Lib.hid s2; clear s2
  have H_s3 := Lib.hid s3; clear s3
  have H_s4 := Lib.hid s4; clear s4
  have H_f2 := Lib.hid f2; clear f2
  have H_hh := Lib.hid hh; clear hh
  go_wp2_with (fail)
  generalize hw3 : w2.alloc _ = w3
  have f3 : Fresh w2 w3 := by rw [← hw3]; exact (Keep.refl _ _).alloc _
  have r3 : w3.heap[h]? = some (.cells #[.bool nb, .slice al l.length cl, .int .i64 (-(t : Int))] 45 (0, 0)) := by rw [← hw3, H_hh.out]; exact heap_alloc_new w2 _
  rw [← H_hh.out]
  have f3 := fresh_trans H_f2.out f3
  have s1 := H_s1.out.fresh (by rw [← hw3]; exact (Keep.refl _ _).alloc _ : Fresh w2 w3)
  have b1 := row_fresh H_b1.out f3
  have k0 := row_cell b1 0
  have k1 := row_cell b1 1
  have k2 := row_cell b1 2
  have k3 := row_cell r3 0
  have k4 := row_cell r3 1
  have k5 := row_cell r3 2
  simp at k0 k1 k2 k3 k4 k5
  have hll : l.length ≤ 400 := H_s2.out.s_len_le (by rw [sgn_sint H_s4.out]; exact H_hR.out)
  have hfrac := fun W (hW : Fresh w3 W) => DecFrac_any nb _ l t W (s1.fresh hW) H_s2.out H_s3.out (by have := H_ht19.out; omega) (by omega)
  rw [H_s4.out] at hfrac
  have hhas := fun W x (hxx : SFr W x (sgnN z (rhe (z.natAbs * 10 ^ t) d)) (10 ^ t)) => FixHas_same neg c s x W H_hs.out H_hc.out H_hcan.out _ _ (by rw [sgnN_abs]; exact spow_more H_hR.out (by omega)) (ten_spow H_ht19.out) H_hq.out hxx
  clear H_s1 H_b1 b1 hll
  have H_f3 := Lib.hid f3; clear f3
  have H_s1 := Lib.hid s1; clear s1
  have H_r3 := Lib.hid r3; clear r3
  have H_hfrac := Lib.hid hfrac; clear hfrac
  have H_hhas := Lib.hid hhas; clear hhas
  have H_hw3 := Lib.hid hw3; clear hw3
  go_wp2_with (fail)
  go_region_held3 (fun (w' : World) => w'.cell? ⟨g, 0, none⟩ = some (.bool neg) ∧ w'.cell? ⟨g, 1, none⟩ = some (.int .u64 c) ∧ w'.cell? ⟨g, 2, none⟩ = some (.int .i64 s) ∧ w'.cell? ⟨h, 0, none⟩ = some (.bool nb) ∧ w'.cell? ⟨h, 1, none⟩ = some (.slice al l.length cl) ∧ w'.cell? ⟨h, 2, none⟩ = some (.int .i64 (-(t : Int)))) (first | exact ⟨k0, k1, k2, k3, k4, k5⟩ | exact ⟨m0, m1, m2, m3, m4, m5⟩ | exact ⟨nc0, nc1, nc2, nc3, nc4, nc5⟩) (first
    | (go_at_call 21; (with_reducible refine (H_hfrac.out _ ?c1).mono ?_); (case c1 => first | exact Keep.refl _ _ | exact (Keep.refl _ _).drew | exact (Keep.refl _ _).drewN _); rintro e w4 ⟨x4, rfl, y4, f4⟩; have hf4 : Fresh w3 w4 := (by first | exact f4 | exact f4.of_drew | exact f4.of_drewN); have m0 := cell_fresh k0 hf4; have m1 := cell_fresh k1 hf4; have m2 := cell_fresh k2 hf4; have m3 := cell_fresh k3 hf4; have m4 := cell_fresh k4 hf4; have m5 := cell_fresh k5 hf4; have H_y4 := Lib.hid y4; have H_hf4 := Lib.hid hf4; clear y4 f4 hf4)
    | (go_at_call 20; (with_reducible refine (H_hhas.out _ _ H_y4.out).mono ?_); rintro e w5 ⟨rfl, f5⟩; have nc0 := cell_fresh m0 f5; have nc1 := cell_fresh m1 f5; have nc2 := cell_fresh m2 f5; have nc3 := cell_fresh m3 f5; have nc4 := cell_fresh m4 f5; have nc5 := cell_fresh m5 f5; have H_f5 := Lib.hid f5; clear f5))
  go_wp2
  go_ret
  exact ⟨rfl, fresh_trans (fresh_trans (fresh_trans H_hf.out H_f3.out) H_hf4.out) H_f5.out⟩

end Go.Proofs.YtmgidnjpkbgmgabGreatDoor
