/- The row of FnDecSub. -/
import Derived.Test.YtjjolcjeiogdmaaGreatDoorRowDecSubAZ
namespace Go.Proofs.YtjjolcjeiogdmaaGreatDoor
open Go Go.ChangeShapes Go.WideShapes Go.ChangeAt Go.RowKit Go.Lib Go.Joins

theorem fnDecSub_k3 : mapsRowed Tryz.prog = true := by kernel_rfl

theorem fnDecSub_k10 : (Rows.fnDecSubRow.inPlace == Tryz.prog.inPlace 6) = true := by kernel_rfl

theorem fnDecSub_k11 : (Rows.fnDecSubRow.unfollowed == Tryz.prog.unfollowed 6) = true := by kernel_rfl

theorem fnDecSub_k12 : (Rows.fnDecSubRow.recurses == Tryz.prog.recurses 6) = true := by kernel_rfl

theorem fnDecSub_k13 : (Rows.fnDecSubRow.named == Tryz.prog.varsNamed 6) = true := by kernel_rfl

theorem fnDecSub_closed : joinedFacts Tryz.prog 6 Tryz.f6 Rows.fnDecSubSpec Rows.fnDecSubRow = true := by
  unfold joinedFacts
  rw [fnDecSub_k3, fnDecSub_k10, fnDecSub_k11, fnDecSub_k12, fnDecSub_k13, rw_laidOut]
  kernel_rfl

theorem fnDecSub_wrap : Tryz.f6.isWrapper Tryz.prog Rows.fnDecSubRow.wrapper Rows.fnDecSubRow.mainSum := by
  unfold Func.isWrapper; first | (rw [if_pos (by decide +kernel)]; kernel_rfl) | (rw [if_neg (by decide +kernel)]; exact ⟨rfl, rfl⟩)

theorem fnDecSub_row_holds : Rows.FnDecSubSaid :=
  OpenClaim.holds_of_wide 6 Tryz.f6 rfl rfl rfl rfl rfl rfl rfl ⟨rfl, rfl, rfl, rfl, rfl⟩ rfl rfl rfl rfl rfl (by kernel_rfl) Tryz.func6 fnDecSub_closed
    (of_decide_eq_true (by kernel_rfl)) fnDecSub_wrap
    (fun os started H enc _ => fnDecSub_lifted os started H enc)

end Go.Proofs.YtjjolcjeiogdmaaGreatDoor
