/- The contract of the reference's fractions: Abs. -/
import Derived.Test.YtjdfapoomjeabaaGreatDoorK69
namespace Go.Proofs.YtjdfapoomjeabaaGreatDoor
open Go.RowKit

set_option maxRecDepth 20000 in
set_option maxHeartbeats 4000000 in
theorem FracAbs_any (xa : Value) (za : Int) (da : Nat) (w : World) (ha : SFr w xa za da) :
    Calls Tryz.prog 23 #[xa] w (FRet w (za.natAbs : Int) da) := by
  obtain ⟨na, va, la, dva, dla, rfl, ha, hna, hca, rfl, hda, hdna, rfl⟩ := ha
  obtain ⟨aa, ca, rfl⟩ := ha.form
  obtain ⟨ada, cda, rfl⟩ := hda.form
  obtain ⟨g, hg⟩ : ∃ g, g = w.heap.size := ⟨_, rfl⟩
  have bx := boxes2 w #[.bool na, .slice aa la.length ca, .slice ada dla.length cda] #[.bool false, .slice aa la.length ca, .slice ada dla.length cda] 34 34 g hg
  have hz : sint false la = ((sint na la).natAbs : Int) := by rw [sint_natAbs]; rfl
  have H_ha := Lib.hid ha; clear ha
  have H_hda := Lib.hid hda; clear hda
  have H_bx := Lib.hid bx; clear bx
  have H_hna := Lib.hid hna; clear hna
  have H_hca := Lib.hid hca; clear hca
  have H_hdna := Lib.hid hdna; clear hdna
  have H_hz := Lib.hid hz; clear hz
  go_enter Tryz.func23, Tryz.ntmps23
  go_wp2_with (fail)
  generalize hw1 : (w.alloc _).alloc _ = w1
  rw [← hg]
  obtain ⟨b1, b2, hf⟩ := H_bx.out w1 hw1
  have k0 := row_cell b1 0
  have k1 := row_cell b1 1
  have k2 := row_cell b1 2
  simp at k0 k1 k2
  have H_b1 := Lib.hid b1; clear b1
  have H_b2 := Lib.hid b2; clear b2
  have H_hf := Lib.hid hf; clear hf
  have H_hw1 := Lib.hid hw1; clear hw1
  have H_hg := Lib.hid hg; clear hg
  go_wp2_with (fail)
  refine bodyPost_ret (results_cell_row rfl _ _ (g + 1) 34 #[.bool false, .slice aa la.length ca, .slice ada dla.length cda] (0, 0) _ rfl H_b2.out Tryz.underlying34 rfl (by kernel_rfl)) rfl ?_
  have ha3 := H_ha.out.fresh H_hf.out
  have hda3 := H_hda.out.fresh H_hf.out
  exact ⟨_, rfl, ⟨false, _, la, _, dla, rfl, ha3, H_hna.out, fun _ => rfl, H_hz.out, hda3, H_hdna.out, rfl⟩, H_hf.out⟩

end Go.Proofs.YtjdfapoomjeabaaGreatDoor
