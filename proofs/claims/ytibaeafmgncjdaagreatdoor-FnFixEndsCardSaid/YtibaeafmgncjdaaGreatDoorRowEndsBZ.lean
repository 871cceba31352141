/- The row of FnFixEnds. -/
import Derived.Test.YtibaeafmgncjdaaGreatDoorRowEndsAZ
namespace Go.Proofs.YtibaeafmgncjdaaGreatDoor
open Go Go.ChangeShapes Go.WideShapes Go.ChangeAt Go.RowKit Go.Lib Go.Joins

theorem fnFixEnds_k3 : mapsRowed Tryz.prog = true := by kernel_rfl

theorem fnFixEnds_k10 : (Rows.fnFixEndsRow.inPlace == Tryz.prog.inPlace 12) = true := by kernel_rfl

theorem fnFixEnds_k11 : (Rows.fnFixEndsRow.unfollowed == Tryz.prog.unfollowed 12) = true := by kernel_rfl

theorem fnFixEnds_k12 : (Rows.fnFixEndsRow.recurses == Tryz.prog.recurses 12) = true := by kernel_rfl

theorem fnFixEnds_k13 : (Rows.fnFixEndsRow.named == Tryz.prog.varsNamed 12) = true := by kernel_rfl

theorem fnFixEnds_closed : joinedFacts Tryz.prog 12 Tryz.f12 Rows.fnFixEndsSpec Rows.fnFixEndsRow = true := by
  unfold joinedFacts
  rw [fnFixEnds_k3, fnFixEnds_k10, fnFixEnds_k11, fnFixEnds_k12, fnFixEnds_k13, rw_laidOut]
  kernel_rfl

theorem fnFixEnds_wrap : Tryz.f12.isWrapper Tryz.prog Rows.fnFixEndsRow.wrapper Rows.fnFixEndsRow.mainSum := by
  unfold Func.isWrapper; first | (rw [if_pos (by decide +kernel)]; kernel_rfl) | (rw [if_neg (by decide +kernel)]; exact ⟨rfl, rfl⟩)

theorem fnFixEnds_row_holds : Rows.FnFixEndsSaid :=
  OpenClaim.holds_of_wide 12 Tryz.f12 rfl rfl rfl rfl rfl rfl rfl ⟨rfl, rfl, rfl, rfl, rfl⟩ rfl rfl rfl rfl rfl (by kernel_rfl) Tryz.func12 fnFixEnds_closed
    (of_decide_eq_true (by kernel_rfl)) fnFixEnds_wrap
    (fun os started H enc _ => fnFixEnds_lifted os started H enc)

end Go.Proofs.YtibaeafmgncjdaaGreatDoor
