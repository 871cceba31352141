/- The row of FnFixCmpTotal. -/
import Derived.Test.YtecadiflbfpofaaGreatDoorJ17
namespace Go.Proofs.YtecadiflbfpofaaGreatDoor
open Go Go.ChangeShapes Go.WideShapes Go.ChangeAt Go.RowKit Go.Lib Go.Joins

theorem fnFixCmpTotal_k3 : mapsRowed Tryz.prog = true := by kernel_rfl

theorem fnFixCmpTotal_k10 : (Rows.fnFixCmpTotalRow.inPlace == Tryz.prog.inPlace 6) = true := by kernel_rfl

theorem fnFixCmpTotal_k11 : (Rows.fnFixCmpTotalRow.unfollowed == Tryz.prog.unfollowed 6) = true := by kernel_rfl

theorem fnFixCmpTotal_k12 : (Rows.fnFixCmpTotalRow.recurses == Tryz.prog.recurses 6) = true := by kernel_rfl

theorem fnFixCmpTotal_k13 : (Rows.fnFixCmpTotalRow.named == Tryz.prog.varsNamed 6) = true := by kernel_rfl

theorem fnFixCmpTotal_closed : joinedFacts Tryz.prog 6 Tryz.f6 Rows.fnFixCmpTotalSpec Rows.fnFixCmpTotalRow = true := by
  unfold joinedFacts
  rw [fnFixCmpTotal_k3, fnFixCmpTotal_k10, fnFixCmpTotal_k11, fnFixCmpTotal_k12, fnFixCmpTotal_k13, rw_laidOut]
  kernel_rfl

theorem fnFixCmpTotal_wrap : Tryz.f6.isWrapper Tryz.prog Rows.fnFixCmpTotalRow.wrapper Rows.fnFixCmpTotalRow.mainSum := by
  unfold Func.isWrapper; first | (rw [if_pos (by decide +kernel)]; kernel_rfl) | (rw [if_neg (by decide +kernel)]; exact ⟨rfl, rfl⟩)

theorem fnFixCmpTotal_row_holds : Rows.FnFixCmpTotalSaid :=
  OpenClaim.holds_of_wide 6 Tryz.f6 rfl rfl rfl rfl rfl rfl rfl ⟨rfl, rfl, rfl, rfl, rfl⟩ rfl rfl rfl rfl rfl (by kernel_rfl) Tryz.func6 fnFixCmpTotal_closed
    (of_decide_eq_true (by kernel_rfl)) fnFixCmpTotal_wrap
    (fun os started H enc _ => fnFixCmpTotal_lifted os started H enc)

end Go.Proofs.YtecadiflbfpofaaGreatDoor
