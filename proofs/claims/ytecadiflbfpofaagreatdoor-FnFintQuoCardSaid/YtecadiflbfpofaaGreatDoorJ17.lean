/- The row of FnFintQuo. -/
import Derived.Test.YtecadiflbfpofaaGreatDoorJ16
namespace Go.Proofs.YtecadiflbfpofaaGreatDoor
open Go Go.ChangeShapes Go.WideShapes Go.ChangeAt Go.RowKit Go.Lib Go.Joins

theorem fnFintQuo_k3 : mapsRowed Tryz.prog = true := by kernel_rfl

theorem fnFintQuo_k10 : (Rows.fnFintQuoRow.inPlace == Tryz.prog.inPlace 4) = true := by kernel_rfl

theorem fnFintQuo_k11 : (Rows.fnFintQuoRow.unfollowed == Tryz.prog.unfollowed 4) = true := by kernel_rfl

theorem fnFintQuo_k12 : (Rows.fnFintQuoRow.recurses == Tryz.prog.recurses 4) = true := by kernel_rfl

theorem fnFintQuo_k13 : (Rows.fnFintQuoRow.named == Tryz.prog.varsNamed 4) = true := by kernel_rfl

theorem fnFintQuo_closed : joinedFacts Tryz.prog 4 Tryz.f4 Rows.fnFintQuoSpec Rows.fnFintQuoRow = true := by
  unfold joinedFacts
  rw [fnFintQuo_k3, fnFintQuo_k10, fnFintQuo_k11, fnFintQuo_k12, fnFintQuo_k13, rw_laidOut]
  kernel_rfl

theorem fnFintQuo_wrap : Tryz.f4.isWrapper Tryz.prog Rows.fnFintQuoRow.wrapper Rows.fnFintQuoRow.mainSum := by
  unfold Func.isWrapper; first | (rw [if_pos (by decide +kernel)]; kernel_rfl) | (rw [if_neg (by decide +kernel)]; exact ⟨rfl, rfl⟩)

theorem fnFintQuo_row_holds : Rows.FnFintQuoSaid :=
  OpenClaim.holds_of_wide 4 Tryz.f4 rfl rfl rfl rfl rfl rfl rfl ⟨rfl, rfl, rfl, rfl, rfl⟩ rfl rfl rfl rfl rfl (by kernel_rfl) Tryz.func4 fnFintQuo_closed
    (of_decide_eq_true (by kernel_rfl)) fnFintQuo_wrap
    (fun os started H enc _ => fnFintQuo_lifted os started H enc)

end Go.Proofs.YtecadiflbfpofaaGreatDoor
