/- The contracts of the reference's fractions: Frac.Add, Frac.Mul. -/
import Derived.Test.YtmgidnjpkbgmgabGreatDoorKB4
import Derived.Test.YtmgidnjpkbgmgabGreatDoorKB8
import Derived.Test.YtmgidnjpkbgmgabGreatDoorKB10
namespace Go.Proofs.YtmgidnjpkbgmgabGreatDoor
open Go.RowKit

set_option maxRecDepth 20000 in
set_option maxHeartbeats 4000000 in
theorem FracMul_any (xa xb : Value) (za zb : Int) (da db : Nat) (w : World) (ha : SFr w xa za da) (hb : SFr w xb zb db) (h1 : za.natAbs < spow 1000) (h2 : zb.natAbs < spow 1000) (h3 : da < spow 1000) (h4 : db < spow 1000) :
    Calls Tryz.prog 25 #[xa, xb] w (FRet w (za * zb) (da * db)) := by
  obtain ⟨na, va, la, dva, dla, rfl, ha, hna, hca, rfl, hda, hdna, rfl⟩ := ha
  obtain ⟨nb, vb, lb, dvb, dlb, rfl, hb, hnb, hcb, rfl, hdb, hdnb, rfl⟩ := hb
  rw [sint_natAbs] at h1 h2
  have l1 := hna.s_len_le h1
  have l2 := hnb.s_len_le h2
  have l3 := hdna.s_len_le h3
  have l4 := hdnb.s_len_le h4
  obtain ⟨aa, ca, rfl⟩ := ha.form
  obtain ⟨ab, cb, rfl⟩ := hb.form
  obtain ⟨ada, cda, rfl⟩ := hda.form
  obtain ⟨adb, cdb, rfl⟩ := hdb.form
  obtain ⟨g, hg⟩ : ∃ g, g = w.heap.size := ⟨_, rfl⟩
  have bx := boxes3 w #[.bool na, .slice aa la.length ca, .slice ada dla.length cda] #[.bool nb, .slice ab lb.length cb, .slice adb dlb.length cdb] #[.bool false, .slice none 0 0, .slice none 0 0] 39 39 39 g hg
  have hmul1 : ∀ w1, Fresh w w1 → ∀ W, Fresh w1 W → Calls Tryz.prog 57 #[swh na (.slice aa la.length ca), swh nb (.slice ab lb.length cb)] W (WRet W (sint na la * sint nb lb)) := fun w1 hf W hW => WholeMul_any _ _ _ _ la lb W ((ha.fresh hf).fresh hW) ((hb.fresh hf).fresh hW) (by omega)
  have hden : ∀ w1, Fresh w w1 → ∀ W, Fresh w1 W → Calls Tryz.prog 49 #[.slice ada dla.length cda, .slice adb dlb.length cdb] W (SRet W (sval dla * sval dlb)) := fun w1 hf W hW => NatMul_any _ _ dla dlb W ((hda.fresh hf).fresh hW) ((hdb.fresh hf).fresh hW) (by omega)
  have H_ha := Lib.hid ha; clear ha
  have H_hb := Lib.hid hb; clear hb
  have H_hda := Lib.hid hda; clear hda
  have H_hdb := Lib.hid hdb; clear hdb
  have H_bx := Lib.hid bx; clear bx
  have H_hna := Lib.hid hna; clear hna
  have H_hca := Lib.hid hca; clear hca
  have H_hnb := Lib.hid hnb; clear hnb
  have H_hcb := Lib.hid hcb; clear hcb
  have H_hdna := Lib.hid hdna; clear hdna
  have H_hdnb := Lib.hid hdnb; clear hdnb
  have H_h1 := Lib.hid h1; clear h1
  have H_h2 := Lib.hid h2; clear h2
  have H_h3 := Lib.hid h3; clear h3
  have H_h4 := Lib.hid h4; clear h4
  have H_hmul1 := Lib.hid hmul1; clear hmul1
  have H_hden := Lib.hid hden; clear hden
  go_enter Tryz.func25, Tryz.ntmps25
  go_wp2_with (fail)
  generalize hw1 : ((w.alloc _).alloc _).alloc _ = w1
  rw [← hg]
  obtain ⟨b1, b2, b3, hf, hgs⟩ := H_bx.out w1 hw1
  have k0 := row_cell b1 0
  have k1 := row_cell b1 1
  have k2 := row_cell b1 2
  have k3 := row_cell b2 0
  have k4 := row_cell b2 1
  have k5 := row_cell b2 2
  simp at k0 k1 k2 k3 k4 k5
  have hmul1 := H_hmul1.out w1 hf
  have hden := H_hden.out w1 hf
  clear H_hmul1 H_hden
  have H_b1 := Lib.hid b1; clear b1
  have H_b2 := Lib.hid b2; clear b2
  have H_b3 := Lib.hid b3; clear b3
  have H_hf := Lib.hid hf; clear hf
  have H_hw1 := Lib.hid hw1; clear hw1
  have H_hg := Lib.hid hg; clear hg
  have H_hgs := Lib.hid hgs; clear hgs
  have H_hmul1 := Lib.hid hmul1; clear hmul1
  have H_hden := Lib.hid hden; clear hden
  go_region_held3 (fun (w' : World) => w'.cell? ⟨g, 0, none⟩ = some (.bool na) ∧ w'.cell? ⟨g, 1, none⟩ = some (.slice aa la.length ca) ∧ w'.cell? ⟨g, 2, none⟩ = some (.slice ada dla.length cda) ∧ w'.cell? ⟨g + 1, 0, none⟩ = some (.bool nb) ∧ w'.cell? ⟨g + 1, 1, none⟩ = some (.slice ab lb.length cb) ∧ w'.cell? ⟨g + 1, 2, none⟩ = some (.slice adb dlb.length cdb)) (first | exact ⟨k0, k1, k2, k3, k4, k5⟩ | exact ⟨m0, m1, m2, m3, m4, m5⟩ | exact ⟨nc0, nc1, nc2, nc3, nc4, nc5⟩ | exact ⟨far3 (by omega) nc0, far3 (by omega) nc1, far3 (by omega) nc2, far3 (by omega) nc3, far3 (by omega) nc4, far3 (by omega) nc5⟩) (first
    | (go_at_call 57; (with_reducible refine (H_hmul1.out _ ?c1).mono ?_); (case c1 => first | exact Keep.refl _ _ | exact (Keep.refl _ _).drew | exact (Keep.refl _ _).drewN _); rintro e w3 ⟨x3, rfl, ⟨n3, v3, l3, rfl, t1, t2, t3, t4⟩, r2⟩; obtain ⟨a3, c3, rfl⟩ := t1.form; have hf3 : Fresh w1 w3 := (by first | exact r2 | exact r2.of_drew | exact r2.of_drewN); have m0 := cell_fresh k0 hf3; have m1 := cell_fresh k1 hf3; have m2 := cell_fresh k2 hf3; have m3 := cell_fresh k3 hf3; have m4 := cell_fresh k4 hf3; have m5 := cell_fresh k5 hf3; have H_t1 := Lib.hid t1; have H_t2 := Lib.hid t2; have H_t3 := Lib.hid t3; have H_t4 := Lib.hid t4; have H_hf3 := Lib.hid hf3; clear t1 t2 t3 t4 r2 hf3)
    | (go_at_call 49; (with_reducible refine (H_hden.out _ (H_hf3.out)).mono ?_); rintro e w6 ⟨v6, l6, rfl, u1, u2, u3, u4⟩; obtain ⟨a6, c6, rfl⟩ := u1.form; have nc0 := cell_fresh m0 u4; have nc1 := cell_fresh m1 u4; have nc2 := cell_fresh m2 u4; have nc3 := cell_fresh m3 u4; have nc4 := cell_fresh m4 u4; have nc5 := cell_fresh m5 u4; have b4 := row_fresh H_b3.out (fresh_trans (H_hf3.out) u4); have p0 := row_cell b4 0; have p1 := row_cell b4 1; have p2 := row_cell b4 2; have z0 : w6.frozen? ⟨g + 1 + 1, 0, none⟩ = false := frozen_of_row _ _ _ _ _ b4; have z1 : w6.frozen? ⟨g + 1 + 1, 1, none⟩ = false := frozen_of_row _ _ _ _ _ b4; have z2 : w6.frozen? ⟨g + 1 + 1, 2, none⟩ = false := frozen_of_row _ _ _ _ _ b4; simp at p0 p1 p2; have H_b4 := Lib.hid b4; clear b4; have H_u1 := Lib.hid u1; have H_u2 := Lib.hid u2; have H_u3 := Lib.hid u3; have H_u4 := Lib.hid u4; clear u1 u2 u3 u4))
  go_wp2
  refine bodyPost_ret (results_cell_row rfl _ _ (g + 1 + 1) 39 #[.bool n3, .slice a3 l3.length c3, .slice a6 l6.length c6] (0, 0) _ rfl (row_set (row_set (row_set H_b4.out))) Tryz.underlying39 rfl (by kernel_rfl)) rfl ?_
  have f1 := (H_t1.out.fresh H_u4.out).off p0 (fun n e => by simp at e)
  have f2 := H_u1.out.off p0 (fun n e => by simp at e)
  exact ⟨_, rfl, ⟨n3, _, l3, _, l6, rfl, (((H_t1.out.fresh H_u4.out).setOff f1).setOff f1).setOff f1, H_t2.out, H_t3.out, H_t4.out.trans (by simp [sint]), ((H_u1.out.setOff f2).setOff f2).setOff f2, H_u2.out, H_u3.out⟩, (fresh_trans H_hf.out (fresh_trans (H_hf3.out) H_u4.out)).set3 (by have := H_hg.out; omega)⟩

end Go.Proofs.YtmgidnjpkbgmgabGreatDoor
