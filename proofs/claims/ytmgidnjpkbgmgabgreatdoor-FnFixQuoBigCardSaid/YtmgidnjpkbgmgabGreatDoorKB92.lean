/- The law gvNear, of a result that is the nearest one by its number, at whatever places. -/
import Derived.Test.YtmgidnjpkbgmgabGreatDoorKB5
import Derived.Test.YtmgidnjpkbgmgabGreatDoorKB11
import Derived.Test.YtmgidnjpkbgmgabGreatDoorKB18
namespace Go.Proofs.YtmgidnjpkbgmgabGreatDoor
open Go.RowKit

end Go.Proofs.YtmgidnjpkbgmgabGreatDoor

/- The contract of the reference's fractions: Inverse. -/
namespace Go.Proofs.YtmgidnjpkbgmgabGreatDoor
open Go.RowKit

set_option maxRecDepth 20000 in
set_option maxHeartbeats 4000000 in
theorem FracInverse_any (xa : Value) (za : Int) (da : Nat) (w : World) (ha : SFr w xa za da) :
    Calls Tryz.prog 26 #[xa] w (FRet w (if za < 0 then -(da : Int) else (da : Int)) za.natAbs) := by
  obtain ⟨na, va, la, dva, dla, rfl, ha, hna, hca, rfl, hda, hdna, rfl⟩ := ha
  obtain ⟨aa, ca, rfl⟩ := ha.form
  obtain ⟨ada, cda, rfl⟩ := hda.form
  obtain ⟨g, hg⟩ : ∃ g, g = w.heap.size := ⟨_, rfl⟩
  have bx := boxes2 w #[.bool na, .slice aa la.length ca, .slice ada dla.length cda] #[.bool false, .slice none 0 0, .slice none 0 0] 39 39 g hg
  have hmin : ∀ w1, Fresh w w1 → ∀ W, Fresh w1 W → Calls Tryz.prog 48 #[.bool na, .slice ada dla.length cda] W (fun e w' => e = .returned (swh (na && decide (0 < dla.length)) (.slice ada dla.length cda)) ∧ Fresh W w') := fun w1 hf W hW => wholeOf_any na _ dla W ((hda.fresh hf).fresh hW)
  have hnz : sint (na && decide (0 < dla.length)) dla = (if sint na la < 0 then -(sval dla : Int) else (sval dla : Int)) := by
    rw [sint_canon _ hdna]
    cases na
    · rw [if_neg (by simp [sint])]; rfl
    · have h0 : 0 < sval la := by
        rcases Nat.eq_zero_or_pos (sval la) with h | h
        · have := hca (sval_nil_of hna h); cases this
        · exact h
      rw [if_pos (by simp [sint]; omega)]; rfl
  obtain ⟨zz, hzz⟩ : ∃ z, z = (if sint na la < 0 then -(sval dla : Int) else (sval dla : Int)) := ⟨_, rfl⟩
  rw [← hzz] at hnz ⊢
  clear hzz
  have hab : sval la = (sint na la).natAbs := by rw [sint_natAbs]
  obtain ⟨nb, hnb⟩ : ∃ b, b = (na && decide (0 < dla.length)) := ⟨_, rfl⟩
  rw [← hnb] at hmin hnz
  have H_ha := Lib.hid ha; clear ha
  have H_hda := Lib.hid hda; clear hda
  have H_bx := Lib.hid bx; clear bx
  have H_hna := Lib.hid hna; clear hna
  have H_hca := Lib.hid hca; clear hca
  have H_hdna := Lib.hid hdna; clear hdna
  have H_hmin := Lib.hid hmin; clear hmin
  have H_hnb := Lib.hid hnb; clear hnb
  have H_hnz := Lib.hid hnz; clear hnz
  have H_hab := Lib.hid hab; clear hab
  go_enter Tryz.func26, Tryz.ntmps26
  go_wp2_with (fail)
  generalize hw1 : (w.alloc _).alloc _ = w1
  rw [← hg]
  obtain ⟨b1, b2, hf⟩ := H_bx.out w1 hw1
  have k0 := row_cell b1 0
  have k1 := row_cell b1 1
  have k2 := row_cell b1 2
  simp at k0 k1 k2
  have hmin := H_hmin.out w1 hf
  clear H_hmin
  have H_b1 := Lib.hid b1; clear b1
  have H_b2 := Lib.hid b2; clear b2
  have H_hf := Lib.hid hf; clear hf
  have H_hw1 := Lib.hid hw1; clear hw1
  have H_hg := Lib.hid hg; clear hg
  have H_hmin := Lib.hid hmin; clear hmin
  go_region_held3 (fun (w' : World) => w'.cell? ⟨g, 0, none⟩ = some (.bool na) ∧ w'.cell? ⟨g, 1, none⟩ = some (.slice aa la.length ca) ∧ w'.cell? ⟨g, 2, none⟩ = some (.slice ada dla.length cda)) (first | exact ⟨k0, k1, k2⟩ | exact ⟨m0, m1, m2⟩ | exact ⟨far3 (by omega) m0, far3 (by omega) m1, far3 (by omega) m2⟩) (first
    | (go_at_call 48; (with_reducible refine (H_hmin.out _ ?c1).mono ?_); (case c1 => first | exact Keep.refl _ _ | exact (Keep.refl _ _).drew | exact (Keep.refl _ _).drewN _); rintro e w3 ⟨rfl, r2⟩; have hf3 : Fresh w1 w3 := (by first | exact r2 | exact r2.of_drew | exact r2.of_drewN); have m0 := cell_fresh k0 hf3; have m1 := cell_fresh k1 hf3; have m2 := cell_fresh k2 hf3; have b4 := row_fresh H_b2.out (hf3); have p0 := row_cell b4 0; have p1 := row_cell b4 1; have p2 := row_cell b4 2; have z0 : w3.frozen? ⟨g + 1, 0, none⟩ = false := frozen_of_row _ _ _ _ _ b4; have z1 : w3.frozen? ⟨g + 1, 1, none⟩ = false := frozen_of_row _ _ _ _ _ b4; have z2 : w3.frozen? ⟨g + 1, 2, none⟩ = false := frozen_of_row _ _ _ _ _ b4; simp at p0 p1 p2; have H_b4 := Lib.hid b4; clear b4; have H_hf3 := Lib.hid hf3; clear r2 hf3))
  go_wp2
  refine bodyPost_ret (results_cell_row rfl _ _ (g + 1) 39 #[.bool nb, .slice ada dla.length cda, .slice aa la.length ca] (0, 0) _ rfl (row_set (row_set (row_set H_b4.out))) Tryz.underlying39 rfl (by kernel_rfl)) rfl ?_
  have ha3 := (H_ha.out.fresh H_hf.out).fresh H_hf3.out
  have hda3 := (H_hda.out.fresh H_hf.out).fresh H_hf3.out
  have f1 := ha3.off p0 (fun n e => by simp at e)
  have f2 := hda3.off p0 (fun n e => by simp at e)
  exact ⟨_, rfl, ⟨nb, _, dla, _, la, rfl, ((hda3.setOff f2).setOff f2).setOff f2, H_hdna.out, fun h => by rw [H_hnb.out, h]; simp, H_hnz.out, ((ha3.setOff f1).setOff f1).setOff f1, H_hna.out, H_hab.out⟩, (fresh_trans H_hf.out H_hf3.out).set3 (by have := H_hg.out; omega)⟩

end Go.Proofs.YtmgidnjpkbgmgabGreatDoor
