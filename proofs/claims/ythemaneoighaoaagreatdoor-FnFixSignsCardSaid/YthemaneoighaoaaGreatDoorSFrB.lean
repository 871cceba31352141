/- The contracts of the reference's fractions: Frac.Cmp. -/
import Derived.Test.YthemaneoighaoaaGreatDoorSFr
namespace Go.Proofs.YthemaneoighaoaaGreatDoor
open Go.RowKit

theorem sint_natAbs (neg : Bool) (l : List Nat) : (sint neg l).natAbs = sval l := by unfold sint; split <;> simp

set_option maxRecDepth 20000 in
set_option maxHeartbeats 4000000 in
theorem FracCmp_any (xa xb : Value) (za zb : Int) (da db : Nat) (w : World) (ha : SFr w xa za da) (hb : SFr w xb zb db) (h1 : za.natAbs < spow 1000) (h2 : zb.natAbs < spow 1000) (h3 : da < spow 1000) (h4 : db < spow 1000) :
    Calls Tryz.prog 24 #[xa, xb] w (IRet w (cmpZ (za * db) (zb * da))) := by
  obtain ⟨na, va, la, dva, dla, rfl, ha, hna, hca, rfl, hda, hdna, rfl⟩ := ha
  obtain ⟨nb, vb, lb, dvb, dlb, rfl, hb, hnb, hcb, rfl, hdb, hdnb, rfl⟩ := hb
  rw [sint_natAbs] at h1 h2
  have l1 := hna.s_len_le h1
  have l2 := hnb.s_len_le h2
  have l3 := hdna.s_len_le h3
  have l4 := hdnb.s_len_le h4
  obtain ⟨aa, ca, rfl⟩ := ha.form
  obtain ⟨ab, cb, rfl⟩ := hb.form
  obtain ⟨ada, cda, rfl⟩ := hda.form
  obtain ⟨adb, cdb, rfl⟩ := hdb.form
  obtain ⟨g, hg⟩ : ∃ g, g = w.heap.size := ⟨_, rfl⟩
  have bx := boxes2 w #[.bool na, .slice aa la.length ca, .slice ada dla.length cda] #[.bool nb, .slice ab lb.length cb, .slice adb dlb.length cdb] 47 47 g hg
  have hmul1 : ∀ w1, Fresh w w1 → ∀ W, Fresh w1 W → Calls Tryz.prog 54 #[swh na (.slice aa la.length ca), swh false (.slice adb dlb.length cdb)] W (WRet W (sint na la * sint false dlb)) := fun w1 hf W hW => WholeMul_any _ _ _ _ la dlb W ((ha.fresh hf).fresh hW) ((hdb.fresh hf).fresh hW) (by omega)
  have hmul2 : ∀ w1, Fresh w w1 → ∀ W, Fresh w1 W → Calls Tryz.prog 54 #[swh nb (.slice ab lb.length cb), swh false (.slice ada dla.length cda)] W (WRet W (sint nb lb * sint false dla)) := fun w1 hf W hW => WholeMul_any _ _ _ _ lb dla W ((hb.fresh hf).fresh hW) ((hda.fresh hf).fresh hW) (by omega)
  have H_ha := Lib.hid ha; clear ha
  have H_hb := Lib.hid hb; clear hb
  have H_hda := Lib.hid hda; clear hda
  have H_hdb := Lib.hid hdb; clear hdb
  have H_bx := Lib.hid bx; clear bx
  have H_hna := Lib.hid hna; clear hna
  have H_hca := Lib.hid hca; clear hca
  have H_hnb := Lib.hid hnb; clear hnb
  have H_hcb := Lib.hid hcb; clear hcb
  have H_hdna := Lib.hid hdna; clear hdna
  have H_hdnb := Lib.hid hdnb; clear hdnb
  have H_h1 := Lib.hid h1; clear h1
  have H_h2 := Lib.hid h2; clear h2
  have H_h3 := Lib.hid h3; clear h3
  have H_h4 := Lib.hid h4; clear h4
  have H_hmul1 := Lib.hid hmul1; clear hmul1
  have H_hmul2 := Lib.hid hmul2; clear hmul2
  go_enter Tryz.func24, Tryz.ntmps24
  go_wp2_with (fail)
  generalize hw1 : (w.alloc _).alloc _ = w1
  rw [← hg]
  obtain ⟨b1, b2, hf⟩ := H_bx.out w1 hw1
  have k0 := row_cell b1 0
  have k1 := row_cell b1 1
  have k2 := row_cell b1 2
  have k3 := row_cell b2 0
  have k4 := row_cell b2 1
  have k5 := row_cell b2 2
  simp at k0 k1 k2 k3 k4 k5
  have hmul1 := H_hmul1.out w1 hf
  have hmul2 := H_hmul2.out w1 hf
  clear H_hmul1 H_hmul2
  have H_b1 := Lib.hid b1; clear b1
  have H_b2 := Lib.hid b2; clear b2
  have H_hf := Lib.hid hf; clear hf
  have H_hw1 := Lib.hid hw1; clear hw1
  have H_hg := Lib.hid hg; clear hg
  have H_hmul1 := Lib.hid hmul1; clear hmul1
  have H_hmul2 := Lib.hid hmul2; clear hmul2
  go_region_held3 (fun (w' : World) => w'.cell? ⟨g, 0, none⟩ = some (.bool na) ∧ w'.cell? ⟨g, 1, none⟩ = some (.slice aa la.length ca) ∧ w'.cell? ⟨g, 2, none⟩ = some (.slice ada dla.length cda) ∧ w'.cell? ⟨g + 1, 0, none⟩ = some (.bool nb) ∧ w'.cell? ⟨g + 1, 1, none⟩ = some (.slice ab lb.length cb) ∧ w'.cell? ⟨g + 1, 2, none⟩ = some (.slice adb dlb.length cdb)) (first | exact ⟨k0, k1, k2, k3, k4, k5⟩ | exact ⟨m0, m1, m2, m3, m4, m5⟩ | exact ⟨n0, n1, n2, n3, n4, n5⟩ | exact ⟨o0, o1, o2, o3, o4, o5⟩) (first
    | (go_at_call 54; (with_reducible refine (H_hmul1.out _ ?c1).mono ?_); (case c1 => first | exact Keep.refl _ _ | exact (Keep.refl _ _).drew | exact (Keep.refl _ _).drewN _); rintro e w3 ⟨x1, rfl, r1, r2⟩; have hf3 : Fresh w1 w3 := (by first | exact r2 | exact r2.of_drew | exact r2.of_drewN); have m0 := cell_fresh k0 hf3; have m1 := cell_fresh k1 hf3; have m2 := cell_fresh k2 hf3; have m3 := cell_fresh k3 hf3; have m4 := cell_fresh k4 hf3; have m5 := cell_fresh k5 hf3; have H_r1 := Lib.hid r1; have H_hf3 := Lib.hid hf3; clear r1 r2 hf3)
    | (go_at_call 54; (with_reducible refine (H_hmul2.out _ H_hf3.out).mono ?_); rintro e w4 ⟨x2, rfl, s1, s2⟩; have n0 := cell_fresh m0 s2; have n1 := cell_fresh m1 s2; have n2 := cell_fresh m2 s2; have n3 := cell_fresh m3 s2; have n4 := cell_fresh m4 s2; have n5 := cell_fresh m5 s2; have H_s1 := Lib.hid s1; have H_s2 := Lib.hid s2; clear s1 s2)
    | (go_at_call 55; (with_reducible refine (WholeCmp_any _ _ _ _ _ (H_r1.out.fresh H_s2.out) H_s1.out).mono ?_); rintro e w5 ⟨rfl, t1⟩; have o0 := cell_fresh n0 t1; have o1 := cell_fresh n1 t1; have o2 := cell_fresh n2 t1; have o3 := cell_fresh n3 t1; have o4 := cell_fresh n4 t1; have o5 := cell_fresh n5 t1; have H_t1 := Lib.hid t1; clear t1))
  go_wp2
  go_ret
  refine ⟨?_, fresh_trans (fresh_trans (fresh_trans H_hf.out H_hf3.out) H_s2.out) H_t1.out⟩
  simp [sint]

end Go.Proofs.YthemaneoighaoaaGreatDoor
