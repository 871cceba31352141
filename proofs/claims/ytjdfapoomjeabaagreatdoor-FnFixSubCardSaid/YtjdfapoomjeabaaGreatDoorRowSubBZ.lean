/- The row of FnFixSub. -/
import Derived.Test.YtjdfapoomjeabaaGreatDoorRowSubAZ
namespace Go.Proofs.YtjdfapoomjeabaaGreatDoor
open Go Go.ChangeShapes Go.WideShapes Go.ChangeAt Go.RowKit Go.Lib Go.Joins

theorem fnFixSub_k3 : mapsRowed Tryz.prog = true := by kernel_rfl

theorem fnFixSub_k10 : (Rows.fnFixSubRow.inPlace == Tryz.prog.inPlace 5) = true := by kernel_rfl

theorem fnFixSub_k11 : (Rows.fnFixSubRow.unfollowed == Tryz.prog.unfollowed 5) = true := by kernel_rfl

theorem fnFixSub_k12 : (Rows.fnFixSubRow.recurses == Tryz.prog.recurses 5) = true := by kernel_rfl

theorem fnFixSub_k13 : (Rows.fnFixSubRow.named == Tryz.prog.varsNamed 5) = true := by kernel_rfl

theorem fnFixSub_closed : joinedFacts Tryz.prog 5 Tryz.f5 Rows.fnFixSubSpec Rows.fnFixSubRow = true := by
  unfold joinedFacts
  rw [fnFixSub_k3, fnFixSub_k10, fnFixSub_k11, fnFixSub_k12, fnFixSub_k13, rw_laidOut]
  kernel_rfl

theorem fnFixSub_wrap : Tryz.f5.isWrapper Tryz.prog Rows.fnFixSubRow.wrapper Rows.fnFixSubRow.mainSum := by
  unfold Func.isWrapper; first | (rw [if_pos (by decide +kernel)]; kernel_rfl) | (rw [if_neg (by decide +kernel)]; exact ⟨rfl, rfl⟩)

theorem fnFixSub_row_holds : Rows.FnFixSubSaid :=
  OpenClaim.holds_of_wide 5 Tryz.f5 rfl rfl rfl rfl rfl rfl rfl ⟨rfl, rfl, rfl, rfl, rfl⟩ rfl rfl rfl rfl rfl (by kernel_rfl) Tryz.func5 fnFixSub_closed
    (of_decide_eq_true (by kernel_rfl)) fnFixSub_wrap
    (fun os started H enc _ => fnFixSub_lifted os started H enc)

end Go.Proofs.YtjdfapoomjeabaaGreatDoor
