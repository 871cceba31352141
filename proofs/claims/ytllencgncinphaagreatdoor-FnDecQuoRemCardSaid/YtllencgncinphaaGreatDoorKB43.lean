/- The contracts of the reference's fractions: Minus, Sub. -/
import Derived.Test.YtllencgncinphaaGreatDoorKB9
import Derived.Test.YtllencgncinphaaGreatDoorKB15
import Derived.Test.YtllencgncinphaaGreatDoorKB16
import Derived.Test.YtllencgncinphaaGreatDoorKB42
namespace Go.Proofs.YtllencgncinphaaGreatDoor
open Go.RowKit
open Go.Lib (hid)

theorem sint_minus {n : Bool} {l : List Nat} (hn : Norm l) : sint (!n && decide (0 < l.length)) l = -sint n l := by
 rw [sint_canon _ hn]
 cases n <;> simp [sint]

set_option maxRecDepth 20000 in
set_option maxHeartbeats 4000000 in
theorem FracMinus_any (xa : Value) (za : Int) (da : Nat) (w : World) (ha : SFr w xa za da) :
 Calls Tryz.prog 62 #[xa] w (FRet w (-za) da) := by
 obtain ⟨na, va, la, dva, dla, rfl, ha, hna, hca, rfl, hda, hdna, rfl⟩ := ha
 obtain ⟨aa, ca, rfl⟩ := ha.form
 obtain ⟨ada, cda, rfl⟩ := hda.form
 obtain ⟨g, hg⟩ : ∃ g, g = w.heap.size := ⟨_, rfl⟩
 have bx := boxes2 w #[.bool na, .slice aa la.length ca, .slice ada dla.length cda] #[.bool false, .slice none 0 0, .slice none 0 0] 30 30 g hg
 have hmin : ∀ w1, Fresh w w1 → ∀ W, Fresh w1 W → Calls Tryz.prog 108 #[swh na (.slice aa la.length ca)] W (fun e w' => e = .returned (swh (!na && decide (0 < la.length)) (.slice aa la.length ca)) ∧ Fresh W w') := fun w1 hf W hW => Minus_any _ _ la W ((ha.fresh hf).fresh hW)
 obtain ⟨nb, hnb⟩ : ∃ b, b = (!na && decide (0 < la.length)) := ⟨_, rfl⟩
 rw [← hnb] at hmin
 have H_ha := hid ha; have H_hda := hid hda; have H_bx := hid bx; have H_hna := hid hna; have H_hca := hid hca; have H_hdna := hid hdna; have H_hmin := hid hmin; have H_hnb := hid hnb; clear ha hda bx hna hca hdna hmin hnb
 go_enter Tryz.func62, Tryz.ntmps62
 go_wp2_with (fail)
 generalize hw1 : (w.alloc _).alloc _ = w1
 rw [← hg]
 obtain ⟨b1, b2, hf⟩ := H_bx.out w1 hw1
 have k0 := row_cell b1 0
 have k1 := row_cell b1 1
 have k2 := row_cell b1 2
 simp at k0 k1 k2
 have hmin := H_hmin.out w1 hf
 clear H_hmin
 have H_b1 := hid b1; have H_b2 := hid b2; have H_hf := hid hf; have H_hw1 := hid hw1; have H_hg := hid hg; have H_hmin := hid hmin; clear b1 b2 hf hw1 hg hmin
 go_region_held3 (fun (w' : World) => w'.cell? ⟨g, 0, none⟩ = some (.bool na) ∧ w'.cell? ⟨g, 1, none⟩ = some (.slice aa la.length ca) ∧ w'.cell? ⟨g, 2, none⟩ = some (.slice ada dla.length cda)) (first | exact ⟨k0, k1, k2⟩ | exact ⟨m0, m1, m2⟩ | exact ⟨far3 (by omega) m0, far3 (by omega) m1, far3 (by omega) m2⟩) (first
  | (go_at_call 108; (with_reducible refine (H_hmin.out _ ?c1).mono ?_); (case c1 => first | exact Keep.refl _ _ | exact (Keep.refl _ _).drew | exact (Keep.refl _ _).drewN _); rintro e w3 ⟨rfl, r2⟩; have hf3 : Fresh w1 w3 := (by first | exact r2 | exact r2.of_drew | exact r2.of_drewN); have m0 := cell_fresh k0 hf3; have m1 := cell_fresh k1 hf3; have m2 := cell_fresh k2 hf3; have b4 := row_fresh H_b2.out (hf3); have p0 := row_cell b4 0; have p1 := row_cell b4 1; have p2 := row_cell b4 2; have z0 : w3.frozen? ⟨g + 1, 0, none⟩ = false := frozen_of_row _ _ _ _ _ b4; have z1 : w3.frozen? ⟨g + 1, 1, none⟩ = false := frozen_of_row _ _ _ _ _ b4; have z2 : w3.frozen? ⟨g + 1, 2, none⟩ = false := frozen_of_row _ _ _ _ _ b4; simp at p0 p1 p2; have H_b4 := hid b4; clear b4; have H_hf3 := hid hf3; clear r2 hf3))
 go_wp2
 refine bodyPost_ret (results_cell_row rfl _ _ (g + 1) 30 #[.bool nb, .slice aa la.length ca, .slice ada dla.length cda] (0, 0) _ rfl (row_set (row_set (row_set H_b4.out))) Tryz.underlying30 rfl (by kernel_rfl)) rfl ?_
 have ha3 := (H_ha.out.fresh H_hf.out).fresh H_hf3.out
 have hda3 := (H_hda.out.fresh H_hf.out).fresh H_hf3.out
 have f1 := ha3.off p0 (fun n e => by simp at e)
 have f2 := hda3.off p0 (fun n e => by simp at e)
 exact ⟨_, rfl, ⟨nb, _, la, _, dla, rfl, ((ha3.setOff f1).setOff f1).setOff f1, H_hna.out, fun h => by rw [H_hnb.out, h]; simp, by rw [H_hnb.out]; exact sint_minus H_hna.out, ((hda3.setOff f2).setOff f2).setOff f2, H_hdna.out, rfl⟩, (fresh_trans H_hf.out H_hf3.out).set3 (by have := H_hg.out; omega)⟩

set_option maxRecDepth 20000 in
set_option maxHeartbeats 4000000 in
theorem FracSub_any (xa xb : Value) (za zb : Int) (da db : Nat) (w : World) (ha : SFr w xa za da) (hb : SFr w xb zb db) (h1 : za.natAbs < spow 1000) (h2 : zb.natAbs < spow 1000) (h3 : da < spow 1000) (h4 : db < spow 1000) :
 Calls Tryz.prog 23 #[xa, xb] w (FRet w (za * db + -zb * da) (da * db)) := by
 have hadd : ∀ w1, Fresh w w1 → ∀ W x, Fresh w1 W → SFr W x (-zb) db → Calls Tryz.prog 61 #[xa, x] W (FRet W (za * db + -zb * da) (da * db)) :=
  fun w1 hf W x hW hx => FracAdd_any xa x za (-zb) da db W ((ha.fresh hf).fresh hW) hx h1 (by rw [Int.natAbs_neg]; exact h2) h3 h4
 have hmin : ∀ w1, Fresh w w1 → ∀ W, Fresh w1 W → Calls Tryz.prog 62 #[xb] W (FRet W (-zb) db) := fun w1 hf W hW => FracMinus_any xb zb db W ((hb.fresh hf).fresh hW)
 obtain ⟨na, va, la, dva, dla, rfl, ha, hna, hca, hza, hda, hdna, hdd⟩ := ha
 obtain ⟨nb, vb, lb, dvb, dlb, rfl, hb, hnb, hcb, hzb, hdb, hdnb, hdd2⟩ := hb
 obtain ⟨aa, ca, rfl⟩ := ha.form
 obtain ⟨ab, cb, rfl⟩ := hb.form
 obtain ⟨ada, cda, rfl⟩ := hda.form
 obtain ⟨adb, cdb, rfl⟩ := hdb.form
 obtain ⟨g, hg⟩ : ∃ g, g = w.heap.size := ⟨_, rfl⟩
 have bx := boxes3 w #[.bool na, .slice aa la.length ca, .slice ada dla.length cda] #[.bool nb, .slice ab lb.length cb, .slice adb dlb.length cdb] #[.bool false, .slice none 0 0, .slice none 0 0] 30 30 30 g hg
 clear ha hna hca hza hda hdna hdd hb hnb hcb hzb hdb hdnb hdd2 h1 h2 h3 h4
 generalize za * db + -zb * da = z at *
 generalize da * db = d at *
 have H_bx := hid bx; have H_hadd := hid hadd; have H_hmin := hid hmin; clear bx hadd hmin
 go_enter Tryz.func23, Tryz.ntmps23
 go_wp2_with (fail)
 generalize hw1 : ((w.alloc _).alloc _).alloc _ = w1
 rw [← hg]
 obtain ⟨b1, b2, b3, hf, _⟩ := H_bx.out w1 hw1
 have k0 := row_cell b1 0
 have k1 := row_cell b1 1
 have k2 := row_cell b1 2
 have k3 := row_cell b2 0
 have k4 := row_cell b2 1
 have k5 := row_cell b2 2
 simp at k0 k1 k2 k3 k4 k5
 have hmin := H_hmin.out w1 hf
 have hadd := H_hadd.out w1 hf
 clear H_hmin H_hadd
 have H_b1 := hid b1; have H_b2 := hid b2; have H_b3 := hid b3; have H_hf := hid hf; have H_hw1 := hid hw1; have H_hg := hid hg; have H_hmin := hid hmin; have H_hadd := hid hadd; clear b1 b2 b3 hf hw1 hg hmin hadd
 go_region_held3 (fun (w' : World) => w'.cell? ⟨g, 0, none⟩ = some (.bool na) ∧ w'.cell? ⟨g, 1, none⟩ = some (.slice aa la.length ca) ∧ w'.cell? ⟨g, 2, none⟩ = some (.slice ada dla.length cda) ∧ w'.cell? ⟨g + 1, 0, none⟩ = some (.bool nb) ∧ w'.cell? ⟨g + 1, 1, none⟩ = some (.slice ab lb.length cb) ∧ w'.cell? ⟨g + 1, 2, none⟩ = some (.slice adb dlb.length cdb)) (first | exact ⟨k0, k1, k2, k3, k4, k5⟩ | exact ⟨m0, m1, m2, m3, m4, m5⟩ | exact ⟨nc0, nc1, nc2, nc3, nc4, nc5⟩ | exact ⟨far3 (by omega) nc0, far3 (by omega) nc1, far3 (by omega) nc2, far3 (by omega) nc3, far3 (by omega) nc4, far3 (by omega) nc5⟩) (first
  | (go_at_call 62; (with_reducible refine (H_hmin.out _ ?c1).mono ?_); (case c1 => first | exact Keep.refl _ _ | exact (Keep.refl _ _).drew | exact (Keep.refl _ _).drewN _); rintro e w3 ⟨x3, rfl, t1, r2⟩; have hf3 : Fresh w1 w3 := (by first | exact r2 | exact r2.of_drew | exact r2.of_drewN); have m0 := cell_fresh k0 hf3; have m1 := cell_fresh k1 hf3; have m2 := cell_fresh k2 hf3; have m3 := cell_fresh k3 hf3; have m4 := cell_fresh k4 hf3; have m5 := cell_fresh k5 hf3; have H_t1 := hid t1; have H_hf3 := hid hf3; clear t1 r2 hf3)
  | (go_at_call 61; (with_reducible refine (H_hadd.out _ _ H_hf3.out H_t1.out).mono ?_); rintro e w6 ⟨x6, rfl, ⟨n6, v6, l6, dv6, dl6, rfl, u1, u2, u3, u4, u5, u6, u7⟩, r6⟩; obtain ⟨a6, c6, rfl⟩ := u1.form; obtain ⟨a7, c7, rfl⟩ := u5.form; have nc0 := cell_fresh m0 r6; have nc1 := cell_fresh m1 r6; have nc2 := cell_fresh m2 r6; have nc3 := cell_fresh m3 r6; have nc4 := cell_fresh m4 r6; have nc5 := cell_fresh m5 r6; have b4 := row_fresh H_b3.out (fresh_trans H_hf3.out r6); have p0 := row_cell b4 0; have p1 := row_cell b4 1; have p2 := row_cell b4 2; have z0 : w6.frozen? ⟨g + 1 + 1, 0, none⟩ = false := frozen_of_row _ _ _ _ _ b4; have z1 : w6.frozen? ⟨g + 1 + 1, 1, none⟩ = false := frozen_of_row _ _ _ _ _ b4; have z2 : w6.frozen? ⟨g + 1 + 1, 2, none⟩ = false := frozen_of_row _ _ _ _ _ b4; simp at p0 p1 p2; have H_b4 := hid b4; clear b4; have H_u1 := hid u1; have H_u2 := hid u2; have H_u3 := hid u3; have H_u4 := hid u4; have H_u5 := hid u5; have H_u6 := hid u6; have H_u7 := hid u7; have H_r6 := hid r6; clear u1 u2 u3 u4 u5 u6 u7 r6))
 go_wp2
 refine bodyPost_ret (results_cell_row rfl _ _ (g + 1 + 1) 30 #[.bool n6, .slice a6 l6.length c6, .slice a7 dl6.length c7] (0, 0) _ rfl (row_set (row_set (row_set H_b4.out))) Tryz.underlying30 rfl (by kernel_rfl)) rfl ?_
 have f1 := H_u1.out.off p0 (fun n e => by simp at e)
 have f2 := H_u5.out.off p0 (fun n e => by simp at e)
 exact ⟨_, rfl, ⟨n6, _, l6, _, dl6, rfl, ((H_u1.out.setOff f1).setOff f1).setOff f1, H_u2.out, H_u3.out, H_u4.out, ((H_u5.out.setOff f2).setOff f2).setOff f2, H_u6.out, H_u7.out⟩, (fresh_trans H_hf.out (fresh_trans H_hf3.out H_r6.out)).set3 (by have := H_hg.out; omega)⟩

abbrev dd (z e : Int) : Value := .agg #[.string (bstr (wdig z)), .int .i64 e]

end Go.Proofs.YtllencgncinphaaGreatDoor
