/- The row of FnFixSubAbs. -/
import Derived.Test.YtjdfapoomjeabaaGreatDoorRowSubAbsAZ
namespace Go.Proofs.YtjdfapoomjeabaaGreatDoor
open Go Go.ChangeShapes Go.WideShapes Go.ChangeAt Go.RowKit Go.Lib Go.Joins

theorem fnFixSubAbs_k3 : mapsRowed Tryz.prog = true := by kernel_rfl

theorem fnFixSubAbs_k10 : (Rows.fnFixSubAbsRow.inPlace == Tryz.prog.inPlace 6) = true := by kernel_rfl

theorem fnFixSubAbs_k11 : (Rows.fnFixSubAbsRow.unfollowed == Tryz.prog.unfollowed 6) = true := by kernel_rfl

theorem fnFixSubAbs_k12 : (Rows.fnFixSubAbsRow.recurses == Tryz.prog.recurses 6) = true := by kernel_rfl

theorem fnFixSubAbs_k13 : (Rows.fnFixSubAbsRow.named == Tryz.prog.varsNamed 6) = true := by kernel_rfl

theorem fnFixSubAbs_closed : joinedFacts Tryz.prog 6 Tryz.f6 Rows.fnFixSubAbsSpec Rows.fnFixSubAbsRow = true := by
  unfold joinedFacts
  rw [fnFixSubAbs_k3, fnFixSubAbs_k10, fnFixSubAbs_k11, fnFixSubAbs_k12, fnFixSubAbs_k13, rw_laidOut]
  kernel_rfl

theorem fnFixSubAbs_wrap : Tryz.f6.isWrapper Tryz.prog Rows.fnFixSubAbsRow.wrapper Rows.fnFixSubAbsRow.mainSum := by
  unfold Func.isWrapper; first | (rw [if_pos (by decide +kernel)]; kernel_rfl) | (rw [if_neg (by decide +kernel)]; exact ⟨rfl, rfl⟩)

theorem fnFixSubAbs_row_holds : Rows.FnFixSubAbsSaid :=
  OpenClaim.holds_of_wide 6 Tryz.f6 rfl rfl rfl rfl rfl rfl rfl ⟨rfl, rfl, rfl, rfl, rfl⟩ rfl rfl rfl rfl rfl (by kernel_rfl) Tryz.func6 fnFixSubAbs_closed
    (of_decide_eq_true (by kernel_rfl)) fnFixSubAbs_wrap
    (fun os started H enc _ => fnFixSubAbs_lifted os started H enc)

end Go.Proofs.YtjdfapoomjeabaaGreatDoor
