/- The law gvNear, of a result that is the nearest one by its number, at whatever places. -/
import Derived.Test.YtmgidnjpkbgmgabGreatDoorK5
import Derived.Test.YtmgidnjpkbgmgabGreatDoorK11
import Derived.Test.YtmgidnjpkbgmgabGreatDoorK18
namespace Go.Proofs.YtmgidnjpkbgmgabGreatDoor
open Go.RowKit

set_option maxRecDepth 20000 in
set_option maxHeartbeats 4000000 in
theorem gvNear_okT (neg : Bool) (c s : Nat) (xw : Value) (z : Int) (d : Nat) (w : World) (hx : SFr w xw z d) (hd : 0 < d) (hz : z.natAbs < spow 300) (hdd : d < spow 300) (hs : s ≤ 19) (hc : c ≤ 9999999999999999999) (t : Nat) (ht : Top z.natAbs d t) (hct : c * 10 ^ t = rhe (z.natAbs * 10 ^ t) d * 10 ^ s) (hcan : neg = true → 0 < c) (hsg : zfix neg c = sgnN z c) :
    Calls Tryz.prog 14 #[fx neg c s, .int .i64 0, xw] w (VRet w (.bool true)) := by
  obtain ⟨na, va, la, dv, dl, rfl, ha, hna, hca, hzz, hda, hdna, hdd0⟩ := hx
  have hx : SFr w (.agg #[.bool na, va, dv]) z d := ⟨na, va, la, dv, dl, rfl, ha, hna, hca, hzz, hda, hdna, hdd0⟩
  obtain ⟨aa, ca, rfl⟩ := ha.form
  obtain ⟨ad, cd, rfl⟩ := hda.form
  clear ha hna hca hda hdna hzz hdd0
  obtain ⟨g, hg⟩ : ∃ g, g = w.heap.size := ⟨_, rfl⟩
  have hfixed := fun W (hW : Fresh w W) => Fixed_some _ z d t ht W (hx.fresh hW) hd hz hdd
  have ht19 := ht.1
  have hR : rhe (z.natAbs * 10 ^ t) d < spow 400 := rhe_spow hz ht19
  have hq : cmpZ (zfix neg c * ((10 ^ t : Nat) : Int)) (sgnN z (rhe (z.natAbs * 10 ^ t) d) * ((10 ^ s : Nat) : Int)) = 0 := cmpZ_of_eq (by rw [hsg, sgnN_mul, sgnN_mul, hct])
  have bx := boxes2 w #[.bool neg, .int .u64 c, .int .i64 s] #[.bool na, .slice aa la.length ca, .slice ad dl.length cd] 24 39 g hg
  clear ht hct hd hz hdd
  have H_bx := Lib.hid bx; clear bx
  have H_hfixed := Lib.hid hfixed; clear hfixed
  have H_hx := Lib.hid hx; clear hx
  have H_hcan := Lib.hid hcan; clear hcan
  have H_hsg := Lib.hid hsg; clear hsg
  have H_hs := Lib.hid hs; clear hs
  have H_hc := Lib.hid hc; clear hc
  have H_ht19 := Lib.hid ht19; clear ht19
  have H_hR := Lib.hid hR; clear hR
  have H_hq := Lib.hid hq; clear hq
  go_enter Tryz.func14, Tryz.ntmps14
  go_wp2_with (fail)
  generalize hw1 : (w.alloc _).alloc _ = w1
  rw [← hg]
  obtain ⟨b1, b2, hf⟩ := H_bx.out w1 hw1
  have k0 := row_cell b2 0
  have k1 := row_cell b2 1
  have k2 := row_cell b2 2
  simp at k0 k1 k2
  have H_b1 := Lib.hid b1; clear b1
  have H_b2 := Lib.hid b2; clear b2
  have H_hf := Lib.hid hf; clear hf
  have H_hw1 := Lib.hid hw1; clear hw1
  have H_hg := Lib.hid hg; clear hg
  go_wp2_with (fail)
  refine (H_hfixed.out _ H_hf.out).mono ?_
  rintro e w2 ⟨x, rfl, ⟨nb, v, l, rfl, s1, s2, s3, s4⟩, f2⟩
  obtain ⟨al, cl, rfl⟩ := s1.form
  obtain ⟨h, hh⟩ : ∃ h, h = w2.heap.size := ⟨_, rfl⟩
  clear k0 k1 k2
  have H_s1 := Lib.hid s1; clear s1
  have H_s2 := Lib.hid s2; clear s2
  have H_s3 := Lib.hid s3; clear s3
  have H_s4 := Lib.hid s4; clear s4
  have H_f2 := Lib.hid f2; clear f2
  have H_hh := Lib.hid hh; clear hh
  go_wp2_with (fail)
  generalize hw3 : w2.alloc _ = w3
  have f3 : Fresh w2 w3 := by rw [← hw3]; exact (Keep.refl _ _).alloc _
  have r3 : w3.heap[h]? = some (.cells #[.bool nb, .slice al l.length cl, .int .i64 (-(t : Int))] 45 (0, 0)) := by rw [← hw3, H_hh.out]; exact heap_alloc_new w2 _
  rw [← H_hh.out]
  have f3 := fresh_trans H_f2.out f3
  have s1 := H_s1.out.fresh (by rw [← hw3]; exact (Keep.refl _ _).alloc _ : Fresh w2 w3)
  have b1 := row_fresh H_b1.out f3
  have k0 := row_cell b1 0
  have k1 := row_cell b1 1
  have k2 := row_cell b1 2
  have k3 := row_cell r3 0
  have k4 := row_cell r3 1
  have k5 := row_cell r3 2
  simp at k0 k1 k2 k3 k4 k5
  have hll : l.length ≤ 400 := H_s2.out.s_len_le (by rw [sgn_sint H_s4.out]; exact H_hR.out)
  have hfrac := fun W (hW : Fresh w3 W) => DecFrac_any nb _ l t W (s1.fresh hW) H_s2.out H_s3.out (by have := H_ht19.out; omega) (by omega)
  rw [H_s4.out] at hfrac
  have hhas := fun W x (hxx : SFr W x (sgnN z (rhe (z.natAbs * 10 ^ t) d)) (10 ^ t)) => FixHas_same neg c s x W H_hs.out H_hc.out H_hcan.out _ _ (by rw [sgnN_abs]; exact spow_more H_hR.out (by omega)) (ten_spow H_ht19.out) H_hq.out hxx
  clear H_s1 H_b1 b1 hll
  have H_f3 := Lib.hid f3; clear f3
  have H_s1 := Lib.hid s1; clear s1
  have H_r3 := Lib.hid r3; clear r3
  have H_hfrac := Lib.hid hfrac; clear hfrac
  have H_hhas := Lib.hid hhas; clear hhas
  have H_hw3 := Lib.hid hw3; clear hw3
  go_wp2_with (fail)
  go_region_held3 (fun (w' : World) => w'.cell? ⟨g, 0, none⟩ = some (.bool neg) ∧ w'.cell? ⟨g, 1, none⟩ = some (.int .u64 c) ∧ w'.cell? ⟨g, 2, none⟩ = some (.int .i64 s) ∧ w'.cell? ⟨h, 0, none⟩ = some (.bool nb) ∧ w'.cell? ⟨h, 1, none⟩ = some (.slice al l.length cl) ∧ w'.cell? ⟨h, 2, none⟩ = some (.int .i64 (-(t : Int)))) (first | exact ⟨k0, k1, k2, k3, k4, k5⟩ | exact ⟨m0, m1, m2, m3, m4, m5⟩ | exact ⟨nc0, nc1, nc2, nc3, nc4, nc5⟩) (first
    | (go_at_call 21; (with_reducible refine (H_hfrac.out _ ?c1).mono ?_); (case c1 => first | exact Keep.refl _ _ | exact (Keep.refl _ _).drew | exact (Keep.refl _ _).drewN _); rintro e w4 ⟨x4, rfl, y4, f4⟩; have hf4 : Fresh w3 w4 := (by first | exact f4 | exact f4.of_drew | exact f4.of_drewN); have m0 := cell_fresh k0 hf4; have m1 := cell_fresh k1 hf4; have m2 := cell_fresh k2 hf4; have m3 := cell_fresh k3 hf4; have m4 := cell_fresh k4 hf4; have m5 := cell_fresh k5 hf4; have H_y4 := Lib.hid y4; have H_hf4 := Lib.hid hf4; clear y4 f4 hf4)
    | (go_at_call 20; (with_reducible refine (H_hhas.out _ _ H_y4.out).mono ?_); rintro e w5 ⟨rfl, f5⟩; have nc0 := cell_fresh m0 f5; have nc1 := cell_fresh m1 f5; have nc2 := cell_fresh m2 f5; have nc3 := cell_fresh m3 f5; have nc4 := cell_fresh m4 f5; have nc5 := cell_fresh m5 f5; have H_f5 := Lib.hid f5; clear f5))
  go_wp2
  go_ret
  exact ⟨rfl, fresh_trans (fresh_trans (fresh_trans H_hf.out H_f3.out) H_hf4.out) H_f5.out⟩

end Go.Proofs.YtmgidnjpkbgmgabGreatDoor

/- The contract of the reference's fractions: Inverse. -/
namespace Go.Proofs.YtmgidnjpkbgmgabGreatDoor
open Go.RowKit

set_option maxRecDepth 20000 in
set_option maxHeartbeats 4000000 in
theorem FracInverse_any (xa : Value) (za : Int) (da : Nat) (w : World) (ha : SFr w xa za da) :
    Calls Tryz.prog 26 #[xa] w (FRet w (if za < 0 then -(da : Int) else (da : Int)) za.natAbs) := by
  obtain ⟨na, va, la, dva, dla, rfl, ha, hna, hca, rfl, hda, hdna, rfl⟩ := ha
  obtain ⟨aa, ca, rfl⟩ := ha.form
  obtain ⟨ada, cda, rfl⟩ := hda.form
  obtain ⟨g, hg⟩ : ∃ g, g = w.heap.size := ⟨_, rfl⟩
  have bx := boxes2 w #[.bool na, .slice aa la.length ca, .slice ada dla.length cda] #[.bool false, .slice none 0 0, .slice none 0 0] 39 39 g hg
  have hmin : ∀ w1, Fresh w w1 → ∀ W, Fresh w1 W → Calls Tryz.prog 48 #[.bool na, .slice ada dla.length cda] W (fun e w' => e = .returned (swh (na && decide (0 < dla.length)) (.slice ada dla.length cda)) ∧ Fresh W w') := fun w1 hf W hW => wholeOf_any na _ dla W ((hda.fresh hf).fresh hW)
  have hnz : sint (na && decide (0 < dla.length)) dla = (if sint na la < 0 then -(sval dla : Int) else (sval dla : Int)) := by
    rw [sint_canon _ hdna]
    cases na
    · rw [if_neg (by simp [sint])]; rfl
    · have h0 : 0 < sval la := by
        rcases Nat.eq_zero_or_pos (sval la) with h | h
        · have := hca (sval_nil_of hna h); cases this
        · exact h
      rw [if_pos (by simp [sint]; omega)]; rfl
  obtain ⟨zz, hzz⟩ : ∃ z, z = (if sint na la < 0 then -(sval dla : Int) else (sval dla : Int)) := ⟨_, rfl⟩
  rw [← hzz] at hnz ⊢
  clear hzz
  have hab : sval la = (sint na la).natAbs := by rw [sint_natAbs]
  obtain ⟨nb, hnb⟩ : ∃ b, b = (na && decide (0 < dla.length)) := ⟨_, rfl⟩
  rw [← hnb] at hmin hnz
  have H_ha := Lib.hid ha; clear ha
  have H_hda := Lib.hid hda; clear hda
  have H_bx := Lib.hid bx; clear bx
  have H_hna := Lib.hid hna; clear hna
  have H_hca := Lib.hid hca; clear hca
  have H_hdna := Lib.hid hdna; clear hdna
  have H_hmin := Lib.hid hmin; clear hmin
  have H_hnb := Lib.hid hnb; clear hnb
  have H_hnz := Lib.hid hnz; clear hnz
  have H_hab := Lib.hid hab; clear hab
  go_enter Tryz.func26, Tryz.ntmps26
  go_wp2_with (fail)
  generalize hw1 : (w.alloc _).alloc _ = w1
  rw [← hg]
  obtain ⟨b1, b2, hf⟩ := H_bx.out w1 hw1
  have k0 := row_cell b1 0
  have k1 := row_cell b1 1
  have k2 := row_cell b1 2
  simp at k0 k1 k2
  have hmin := H_hmin.out w1 hf
  clear H_hmin
  have H_b1 := Lib.hid b1; clear b1
  have H_b2 := Lib.hid b2; clear b2
  have H_hf := Lib.hid hf; clear hf
  have H_hw1 := Lib.hid hw1; clear hw1
  have H_hg := Lib.hid hg; clear hg
  have H_hmin := Lib.hid hmin; clear hmin
  go_region_held3 (fun (w' : World) => w'.cell? ⟨g, 0, none⟩ = some (.bool na) ∧ w'.cell? ⟨g, 1, none⟩ = some (.slice aa la.length ca) ∧ w'.cell? ⟨g, 2, none⟩ = some (.slice ada dla.length cda)) (first | exact ⟨k0, k1, k2⟩ | exact ⟨m0, m1, m2⟩ | exact ⟨far3 (by omega) m0, far3 (by omega) m1, far3 (by omega) m2⟩) (first
    | (go_at_call 48; (with_reducible refine (H_hmin.out _ ?c1).mono ?_); (case c1 => first | exact Keep.refl _ _ | exact (Keep.refl _ _).drew | exact (Keep.refl _ _).drewN _); rintro e w3 ⟨rfl, r2⟩; have hf3 : Fresh w1 w3 := (by first | exact r2 | exact r2.of_drew | exact r2.of_drewN); have m0 := cell_fresh k0 hf3; have m1 := cell_fresh k1 hf3; have m2 := cell_fresh k2 hf3; have b4 := row_fresh H_b2.out (hf3); have p0 := row_cell b4 0; have p1 := row_cell b4 1; have p2 := row_cell b4 2; have z0 : w3.frozen? ⟨g + 1, 0, none⟩ = false := frozen_of_row _ _ _ _ _ b4; have z1 : w3.frozen? ⟨g + 1, 1, none⟩ = false := frozen_of_row _ _ _ _ _ b4; have z2 : w3.frozen? ⟨g + 1, 2, none⟩ = false := frozen_of_row _ _ _ _ _ b4; simp at p0 p1 p2; have H_b4 := Lib.hid b4; clear b4; have H_hf3 := Lib.hid hf3; clear r2 hf3))
  go_wp2
  refine bodyPost_ret (results_cell_row rfl _ _ (g + 1) 39 #[.bool nb, .slice ada dla.length cda, .slice aa la.length ca] (0, 0) _ rfl (row_set (row_set (row_set H_b4.out))) Tryz.underlying39 rfl (by kernel_rfl)) rfl ?_
  have ha3 := (H_ha.out.fresh H_hf.out).fresh H_hf3.out
  have hda3 := (H_hda.out.fresh H_hf.out).fresh H_hf3.out
  have f1 := ha3.off p0 (fun n e => by simp at e)
  have f2 := hda3.off p0 (fun n e => by simp at e)
  exact ⟨_, rfl, ⟨nb, _, dla, _, la, rfl, ((hda3.setOff f2).setOff f2).setOff f2, H_hdna.out, fun h => by rw [H_hnb.out, h]; simp, H_hnz.out, ((ha3.setOff f1).setOff f1).setOff f1, H_hna.out, H_hab.out⟩, (fresh_trans H_hf.out H_hf3.out).set3 (by have := H_hg.out; omega)⟩

end Go.Proofs.YtmgidnjpkbgmgabGreatDoor
