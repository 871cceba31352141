/- The contracts of the reference's fractions: Frac.Add, Frac.Mul. -/
import Derived.Test.YtjdfapoomjeabaaGreatDoorK4
import Derived.Test.YtjdfapoomjeabaaGreatDoorK8
import Derived.Test.YtjdfapoomjeabaaGreatDoorK10
namespace Go.Proofs.YtjdfapoomjeabaaGreatDoor
open Go.RowKit

set_option maxRecDepth 20000 in
set_option maxHeartbeats 4000000 in
theorem FracAdd_any (xa xb : Value) (za zb : Int) (da db : Nat) (w : World) (ha : SFr w xa za da) (hb : SFr w xb zb db) (h1 : za.natAbs < spow 1000) (h2 : zb.natAbs < spow 1000) (h3 : da < spow 1000) (h4 : db < spow 1000) :
    Calls Tryz.prog 19 #[xa, xb] w (FRet w (za * db + zb * da) (da * db)) := by
  obtain ⟨na, va, la, dva, dla, rfl, ha, hna, hca, rfl, hda, hdna, rfl⟩ := ha
  obtain ⟨nb, vb, lb, dvb, dlb, rfl, hb, hnb, hcb, rfl, hdb, hdnb, rfl⟩ := hb
  rw [sint_natAbs] at h1 h2
  have l1 := hna.s_len_le h1
  have l2 := hnb.s_len_le h2
  have l3 := hdna.s_len_le h3
  have l4 := hdnb.s_len_le h4
  obtain ⟨aa, ca, rfl⟩ := ha.form
  obtain ⟨ab, cb, rfl⟩ := hb.form
  obtain ⟨ada, cda, rfl⟩ := hda.form
  obtain ⟨adb, cdb, rfl⟩ := hdb.form
  obtain ⟨g, hg⟩ : ∃ g, g = w.heap.size := ⟨_, rfl⟩
  have bx := boxes3 w #[.bool na, .slice aa la.length ca, .slice ada dla.length cda] #[.bool nb, .slice ab lb.length cb, .slice adb dlb.length cdb] #[.bool false, .slice none 0 0, .slice none 0 0] 34 34 34 g hg
  have hmul1 : ∀ w1, Fresh w w1 → ∀ W, Fresh w1 W → Calls Tryz.prog 43 #[swh na (.slice aa la.length ca), swh false (.slice adb dlb.length cdb)] W (WRet W (sint na la * sint false dlb)) := fun w1 hf W hW => WholeMul_any _ _ _ _ la dlb W ((ha.fresh hf).fresh hW) ((hdb.fresh hf).fresh hW) (by omega)
  have hmul2 : ∀ w1, Fresh w w1 → ∀ W, Fresh w1 W → Calls Tryz.prog 43 #[swh nb (.slice ab lb.length cb), swh false (.slice ada dla.length cda)] W (WRet W (sint nb lb * sint false dla)) := fun w1 hf W hW => WholeMul_any _ _ _ _ lb dla W ((hb.fresh hf).fresh hW) ((hda.fresh hf).fresh hW) (by omega)
  have hb1 : (sint na la * sint false dlb).natAbs < spow 40000 := by
    rw [Int.natAbs_mul, sint_natAbs, sint_natAbs]
    have := Nat.mul_lt_mul'' h1 h4
    rw [← spow_add] at this
    exact Nat.lt_of_lt_of_le this (spow_mono (by omega))
  have hb2 : (sint nb lb * sint false dla).natAbs < spow 40000 := by
    rw [Int.natAbs_mul, sint_natAbs, sint_natAbs]
    have := Nat.mul_lt_mul'' h2 h3
    rw [← spow_add] at this
    exact Nat.lt_of_lt_of_le this (spow_mono (by omega))
  have hden : ∀ w1, Fresh w w1 → ∀ W, Fresh w1 W → Calls Tryz.prog 44 #[.slice ada dla.length cda, .slice adb dlb.length cdb] W (SRet W (sval dla * sval dlb)) := fun w1 hf W hW => NatMul_any _ _ dla dlb W ((hda.fresh hf).fresh hW) ((hdb.fresh hf).fresh hW) (by omega)
  have H_ha := Lib.hid ha; clear ha
  have H_hb := Lib.hid hb; clear hb
  have H_hda := Lib.hid hda; clear hda
  have H_hdb := Lib.hid hdb; clear hdb
  have H_bx := Lib.hid bx; clear bx
  have H_hna := Lib.hid hna; clear hna
  have H_hca := Lib.hid hca; clear hca
  have H_hnb := Lib.hid hnb; clear hnb
  have H_hcb := Lib.hid hcb; clear hcb
  have H_hdna := Lib.hid hdna; clear hdna
  have H_hdnb := Lib.hid hdnb; clear hdnb
  have H_h1 := Lib.hid h1; clear h1
  have H_h2 := Lib.hid h2; clear h2
  have H_h3 := Lib.hid h3; clear h3
  have H_h4 := Lib.hid h4; clear h4
  have H_hmul1 := Lib.hid hmul1; clear hmul1
  have H_hmul2 := Lib.hid hmul2; clear hmul2
  have H_hb1 := Lib.hid hb1; clear hb1
  have H_hb2 := Lib.hid hb2; clear hb2
  have H_hden := Lib.hid hden; clear hden
  go_enter Tryz.func19, Tryz.ntmps19
  go_wp2_with (fail)
  generalize hw1 : ((w.alloc _).alloc _).alloc _ = w1
  rw [← hg]
  obtain ⟨b1, b2, b3, hf, hgs⟩ := H_bx.out w1 hw1
  have k0 := row_cell b1 0
  have k1 := row_cell b1 1
  have k2 := row_cell b1 2
  have k3 := row_cell b2 0
  have k4 := row_cell b2 1
  have k5 := row_cell b2 2
  simp at k0 k1 k2 k3 k4 k5
  have hmul1 := H_hmul1.out w1 hf
  have hmul2 := H_hmul2.out w1 hf
  clear H_hmul2
  have hden := H_hden.out w1 hf
  clear H_hmul1 H_hden
  have H_b1 := Lib.hid b1; clear b1
  have H_b2 := Lib.hid b2; clear b2
  have H_b3 := Lib.hid b3; clear b3
  have H_hf := Lib.hid hf; clear hf
  have H_hw1 := Lib.hid hw1; clear hw1
  have H_hg := Lib.hid hg; clear hg
  have H_hgs := Lib.hid hgs; clear hgs
  have H_hmul1 := Lib.hid hmul1; clear hmul1
  have H_hmul2 := Lib.hid hmul2; clear hmul2
  have H_hden := Lib.hid hden; clear hden
  go_region_held3 (fun (w' : World) => w'.cell? ⟨g, 0, none⟩ = some (.bool na) ∧ w'.cell? ⟨g, 1, none⟩ = some (.slice aa la.length ca) ∧ w'.cell? ⟨g, 2, none⟩ = some (.slice ada dla.length cda) ∧ w'.cell? ⟨g + 1, 0, none⟩ = some (.bool nb) ∧ w'.cell? ⟨g + 1, 1, none⟩ = some (.slice ab lb.length cb) ∧ w'.cell? ⟨g + 1, 2, none⟩ = some (.slice adb dlb.length cdb)) (first | exact ⟨k0, k1, k2, k3, k4, k5⟩ | exact ⟨m0, m1, m2, m3, m4, m5⟩ | exact ⟨nc0, nc1, nc2, nc3, nc4, nc5⟩ | exact ⟨oc0, oc1, oc2, oc3, oc4, oc5⟩ | exact ⟨qc0, qc1, qc2, qc3, qc4, qc5⟩ | exact ⟨far3 (by omega) qc0, far3 (by omega) qc1, far3 (by omega) qc2, far3 (by omega) qc3, far3 (by omega) qc4, far3 (by omega) qc5⟩) (first
    | (go_at_call 43; (with_reducible refine (H_hmul1.out _ ?c1).mono ?_); (case c1 => first | exact Keep.refl _ _ | exact (Keep.refl _ _).drew | exact (Keep.refl _ _).drewN _); rintro e w3 ⟨x1, rfl, r1, r2⟩; have hf3 : Fresh w1 w3 := (by first | exact r2 | exact r2.of_drew | exact r2.of_drewN); have m0 := cell_fresh k0 hf3; have m1 := cell_fresh k1 hf3; have m2 := cell_fresh k2 hf3; have m3 := cell_fresh k3 hf3; have m4 := cell_fresh k4 hf3; have m5 := cell_fresh k5 hf3; have H_r1 := Lib.hid r1; have H_hf3 := Lib.hid hf3; clear r1 r2 hf3)
    | (go_at_call 43; (with_reducible refine (H_hmul2.out _ H_hf3.out).mono ?_); rintro e w4 ⟨x2, rfl, s1, s2⟩; have nc0 := cell_fresh m0 s2; have nc1 := cell_fresh m1 s2; have nc2 := cell_fresh m2 s2; have nc3 := cell_fresh m3 s2; have nc4 := cell_fresh m4 s2; have nc5 := cell_fresh m5 s2; have H_s1 := Lib.hid s1; have H_s2 := Lib.hid s2; clear s1 s2)
    | (go_at_call 47; (with_reducible refine (WholeAdd_any _ _ _ _ _ (H_r1.out.fresh H_s2.out) H_s1.out H_hb1.out H_hb2.out).mono ?_); rintro e w5 ⟨x3, rfl, ⟨n3, v3, l3, rfl, t1, t2, t3, t4⟩, t5⟩; obtain ⟨a3, c3, rfl⟩ := t1.form; have oc0 := cell_fresh nc0 t5; have oc1 := cell_fresh nc1 t5; have oc2 := cell_fresh nc2 t5; have oc3 := cell_fresh nc3 t5; have oc4 := cell_fresh nc4 t5; have oc5 := cell_fresh nc5 t5; have H_t1 := Lib.hid t1; have H_t2 := Lib.hid t2; have H_t3 := Lib.hid t3; have H_t4 := Lib.hid t4; have H_t5 := Lib.hid t5; clear t1 t2 t3 t4 t5)
    | (go_at_call 44; (with_reducible refine (H_hden.out _ (fresh_trans (fresh_trans H_hf3.out H_s2.out) H_t5.out)).mono ?_); rintro e w6 ⟨v6, l6, rfl, u1, u2, u3, u4⟩; obtain ⟨a6, c6, rfl⟩ := u1.form; have qc0 := cell_fresh oc0 u4; have qc1 := cell_fresh oc1 u4; have qc2 := cell_fresh oc2 u4; have qc3 := cell_fresh oc3 u4; have qc4 := cell_fresh oc4 u4; have qc5 := cell_fresh oc5 u4; have b4 := row_fresh H_b3.out (fresh_trans (fresh_trans (fresh_trans H_hf3.out H_s2.out) H_t5.out) u4); have p0 := row_cell b4 0; have p1 := row_cell b4 1; have p2 := row_cell b4 2; have z0 : w6.frozen? ⟨g + 1 + 1, 0, none⟩ = false := frozen_of_row _ _ _ _ _ b4; have z1 : w6.frozen? ⟨g + 1 + 1, 1, none⟩ = false := frozen_of_row _ _ _ _ _ b4; have z2 : w6.frozen? ⟨g + 1 + 1, 2, none⟩ = false := frozen_of_row _ _ _ _ _ b4; simp at p0 p1 p2; have H_b4 := Lib.hid b4; clear b4; have H_u1 := Lib.hid u1; have H_u2 := Lib.hid u2; have H_u3 := Lib.hid u3; have H_u4 := Lib.hid u4; clear u1 u2 u3 u4))
  go_wp2
  refine bodyPost_ret (results_cell_row rfl _ _ (g + 1 + 1) 34 #[.bool n3, .slice a3 l3.length c3, .slice a6 l6.length c6] (0, 0) _ rfl (row_set (row_set (row_set H_b4.out))) Tryz.underlying34 rfl (by kernel_rfl)) rfl ?_
  have f1 := (H_t1.out.fresh H_u4.out).off p0 (fun n e => by simp at e)
  have f2 := H_u1.out.off p0 (fun n e => by simp at e)
  exact ⟨_, rfl, ⟨n3, _, l3, _, l6, rfl, (((H_t1.out.fresh H_u4.out).setOff f1).setOff f1).setOff f1, H_t2.out, H_t3.out, H_t4.out.trans (by simp [sint]), ((H_u1.out.setOff f2).setOff f2).setOff f2, H_u2.out, H_u3.out⟩, (fresh_trans H_hf.out (fresh_trans (fresh_trans (fresh_trans H_hf3.out H_s2.out) H_t5.out) H_u4.out)).set3 (by have := H_hg.out; omega)⟩

set_option maxRecDepth 20000 in
set_option maxHeartbeats 4000000 in
theorem FracMul_any (xa xb : Value) (za zb : Int) (da db : Nat) (w : World) (ha : SFr w xa za da) (hb : SFr w xb zb db) (h1 : za.natAbs < spow 1000) (h2 : zb.natAbs < spow 1000) (h3 : da < spow 1000) (h4 : db < spow 1000) :
    Calls Tryz.prog 17 #[xa, xb] w (FRet w (za * zb) (da * db)) := by
  obtain ⟨na, va, la, dva, dla, rfl, ha, hna, hca, rfl, hda, hdna, rfl⟩ := ha
  obtain ⟨nb, vb, lb, dvb, dlb, rfl, hb, hnb, hcb, rfl, hdb, hdnb, rfl⟩ := hb
  rw [sint_natAbs] at h1 h2
  have l1 := hna.s_len_le h1
  have l2 := hnb.s_len_le h2
  have l3 := hdna.s_len_le h3
  have l4 := hdnb.s_len_le h4
  obtain ⟨aa, ca, rfl⟩ := ha.form
  obtain ⟨ab, cb, rfl⟩ := hb.form
  obtain ⟨ada, cda, rfl⟩ := hda.form
  obtain ⟨adb, cdb, rfl⟩ := hdb.form
  obtain ⟨g, hg⟩ : ∃ g, g = w.heap.size := ⟨_, rfl⟩
  have bx := boxes3 w #[.bool na, .slice aa la.length ca, .slice ada dla.length cda] #[.bool nb, .slice ab lb.length cb, .slice adb dlb.length cdb] #[.bool false, .slice none 0 0, .slice none 0 0] 34 34 34 g hg
  have hmul1 : ∀ w1, Fresh w w1 → ∀ W, Fresh w1 W → Calls Tryz.prog 43 #[swh na (.slice aa la.length ca), swh nb (.slice ab lb.length cb)] W (WRet W (sint na la * sint nb lb)) := fun w1 hf W hW => WholeMul_any _ _ _ _ la lb W ((ha.fresh hf).fresh hW) ((hb.fresh hf).fresh hW) (by omega)
  have hden : ∀ w1, Fresh w w1 → ∀ W, Fresh w1 W → Calls Tryz.prog 44 #[.slice ada dla.length cda, .slice adb dlb.length cdb] W (SRet W (sval dla * sval dlb)) := fun w1 hf W hW => NatMul_any _ _ dla dlb W ((hda.fresh hf).fresh hW) ((hdb.fresh hf).fresh hW) (by omega)
  have H_ha := Lib.hid ha; clear ha
  have H_hb := Lib.hid hb; clear hb
  have H_hda := Lib.hid hda; clear hda
  have H_hdb := Lib.hid hdb; clear hdb
  have H_bx := Lib.hid bx; clear bx
  have H_hna := Lib.hid hna; clear hna
  have H_hca := Lib.hid hca; clear hca
  have H_hnb := Lib.hid hnb; clear hnb
  have H_hcb := Lib.hid hcb; clear hcb
  have H_hdna := Lib.hid hdna; clear hdna
  have H_hdnb := Lib.hid hdnb; clear hdnb
  have H_h1 := Lib.hid h1; clear h1
  have H_h2 := Lib.hid h2; clear h2
  have H_h3 := Lib.hid h3; clear h3
  have H_h4 := Lib.hid h4; clear h4
  have H_hmul1 := Lib.hid hmul1; clear hmul1
  have H_hden := Lib.hid hden; clear hden
  go_enter Tryz.func17, Tryz.ntmps17
  go_wp2_with (fail)
  generalize hw1 : ((w.alloc _).alloc _).alloc _ = w1
  rw [← hg]
  obtain ⟨b1, b2, b3, hf, hgs⟩ := H_bx.out w1 hw1
  have k0 := row_cell b1 0
  have k1 := row_cell b1 1
  have k2 := row_cell b1 2
  have k3 := row_cell b2 0
  have k4 := row_cell b2 1
  have k5 := row_cell b2 2
  simp at k0 k1 k2 k3 k4 k5
  have hmul1 := H_hmul1.out w1 hf
  have hden := H_hden.out w1 hf
  clear H_hmul1 H_hden
  have H_b1 := Lib.hid b1; clear b1
  have H_b2 := Lib.hid b2; clear b2
  have H_b3 := Lib.hid b3; clear b3
  have H_hf := Lib.hid hf; clear hf
  have H_hw1 := Lib.hid hw1; clear hw1
  have H_hg := Lib.hid hg; clear hg
  have H_hgs := Lib.hid hgs; clear hgs
  have H_hmul1 := Lib.hid hmul1; clear hmul1
  have H_hden := Lib.hid hden; clear hden
  go_region_held3 (fun (w' : World) => w'.cell? ⟨g, 0, none⟩ = some (.bool na) ∧ w'.cell? ⟨g, 1, none⟩ = some (.slice aa la.length ca) ∧ w'.cell? ⟨g, 2, none⟩ = some (.slice ada dla.length cda) ∧ w'.cell? ⟨g + 1, 0, none⟩ = some (.bool nb) ∧ w'.cell? ⟨g + 1, 1, none⟩ = some (.slice ab lb.length cb) ∧ w'.cell? ⟨g + 1, 2, none⟩ = some (.slice adb dlb.length cdb)) (first | exact ⟨k0, k1, k2, k3, k4, k5⟩ | exact ⟨m0, m1, m2, m3, m4, m5⟩ | exact ⟨nc0, nc1, nc2, nc3, nc4, nc5⟩ | exact ⟨far3 (by omega) nc0, far3 (by omega) nc1, far3 (by omega) nc2, far3 (by omega) nc3, far3 (by omega) nc4, far3 (by omega) nc5⟩) (first
    | (go_at_call 43; (with_reducible refine (H_hmul1.out _ ?c1).mono ?_); (case c1 => first | exact Keep.refl _ _ | exact (Keep.refl _ _).drew | exact (Keep.refl _ _).drewN _); rintro e w3 ⟨x3, rfl, ⟨n3, v3, l3, rfl, t1, t2, t3, t4⟩, r2⟩; obtain ⟨a3, c3, rfl⟩ := t1.form; have hf3 : Fresh w1 w3 := (by first | exact r2 | exact r2.of_drew | exact r2.of_drewN); have m0 := cell_fresh k0 hf3; have m1 := cell_fresh k1 hf3; have m2 := cell_fresh k2 hf3; have m3 := cell_fresh k3 hf3; have m4 := cell_fresh k4 hf3; have m5 := cell_fresh k5 hf3; have H_t1 := Lib.hid t1; have H_t2 := Lib.hid t2; have H_t3 := Lib.hid t3; have H_t4 := Lib.hid t4; have H_hf3 := Lib.hid hf3; clear t1 t2 t3 t4 r2 hf3)
    | (go_at_call 44; (with_reducible refine (H_hden.out _ (H_hf3.out)).mono ?_); rintro e w6 ⟨v6, l6, rfl, u1, u2, u3, u4⟩; obtain ⟨a6, c6, rfl⟩ := u1.form; have nc0 := cell_fresh m0 u4; have nc1 := cell_fresh m1 u4; have nc2 := cell_fresh m2 u4; have nc3 := cell_fresh m3 u4; have nc4 := cell_fresh m4 u4; have nc5 := cell_fresh m5 u4; have b4 := row_fresh H_b3.out (fresh_trans (H_hf3.out) u4); have p0 := row_cell b4 0; have p1 := row_cell b4 1; have p2 := row_cell b4 2; have z0 : w6.frozen? ⟨g + 1 + 1, 0, none⟩ = false := frozen_of_row _ _ _ _ _ b4; have z1 : w6.frozen? ⟨g + 1 + 1, 1, none⟩ = false := frozen_of_row _ _ _ _ _ b4; have z2 : w6.frozen? ⟨g + 1 + 1, 2, none⟩ = false := frozen_of_row _ _ _ _ _ b4; simp at p0 p1 p2; have H_b4 := Lib.hid b4; clear b4; have H_u1 := Lib.hid u1; have H_u2 := Lib.hid u2; have H_u3 := Lib.hid u3; have H_u4 := Lib.hid u4; clear u1 u2 u3 u4))
  go_wp2
  refine bodyPost_ret (results_cell_row rfl _ _ (g + 1 + 1) 34 #[.bool n3, .slice a3 l3.length c3, .slice a6 l6.length c6] (0, 0) _ rfl (row_set (row_set (row_set H_b4.out))) Tryz.underlying34 rfl (by kernel_rfl)) rfl ?_
  have f1 := (H_t1.out.fresh H_u4.out).off p0 (fun n e => by simp at e)
  have f2 := H_u1.out.off p0 (fun n e => by simp at e)
  exact ⟨_, rfl, ⟨n3, _, l3, _, l6, rfl, (((H_t1.out.fresh H_u4.out).setOff f1).setOff f1).setOff f1, H_t2.out, H_t3.out, H_t4.out.trans (by simp [sint]), ((H_u1.out.setOff f2).setOff f2).setOff f2, H_u2.out, H_u3.out⟩, (fresh_trans H_hf.out (fresh_trans (H_hf3.out) H_u4.out)).set3 (by have := H_hg.out; omega)⟩

end Go.Proofs.YtjdfapoomjeabaaGreatDoor
