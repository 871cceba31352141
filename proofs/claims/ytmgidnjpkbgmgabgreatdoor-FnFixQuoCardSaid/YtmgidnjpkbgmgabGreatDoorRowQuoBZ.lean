/- The row of FnFixQuo. -/
import Derived.Test.YtmgidnjpkbgmgabGreatDoorRowQuoAZ
namespace Go.Proofs.YtmgidnjpkbgmgabGreatDoor
open Go Go.ChangeShapes Go.WideShapes Go.ChangeAt Go.RowKit Go.Lib Go.Joins

theorem fnFixQuo_k3 : mapsRowed Tryz.prog = true := by kernel_rfl

theorem fnFixQuo_k10 : (Rows.fnFixQuoRow.inPlace == Tryz.prog.inPlace 8) = true := by kernel_rfl

theorem fnFixQuo_k11 : (Rows.fnFixQuoRow.unfollowed == Tryz.prog.unfollowed 8) = true := by kernel_rfl

theorem fnFixQuo_k12 : (Rows.fnFixQuoRow.recurses == Tryz.prog.recurses 8) = true := by kernel_rfl

theorem fnFixQuo_k13 : (Rows.fnFixQuoRow.named == Tryz.prog.varsNamed 8) = true := by kernel_rfl

theorem fnFixQuo_closed : joinedFacts Tryz.prog 8 Tryz.f8 Rows.fnFixQuoSpec Rows.fnFixQuoRow = true := by
  unfold joinedFacts
  rw [fnFixQuo_k3, fnFixQuo_k10, fnFixQuo_k11, fnFixQuo_k12, fnFixQuo_k13, rw_laidOut]
  kernel_rfl

theorem fnFixQuo_wrap : Tryz.f8.isWrapper Tryz.prog Rows.fnFixQuoRow.wrapper Rows.fnFixQuoRow.mainSum := by
  unfold Func.isWrapper; first | (rw [if_pos (by decide +kernel)]; kernel_rfl) | (rw [if_neg (by decide +kernel)]; exact ⟨rfl, rfl⟩)

theorem fnFixQuo_row_holds : Rows.FnFixQuoSaid :=
  OpenClaim.holds_of_wide 8 Tryz.f8 rfl rfl rfl rfl rfl rfl rfl ⟨rfl, rfl, rfl, rfl, rfl⟩ rfl rfl rfl rfl rfl (by kernel_rfl) Tryz.func8 fnFixQuo_closed
    (of_decide_eq_true (by kernel_rfl)) fnFixQuo_wrap
    (fun os started H enc _ => fnFixQuo_lifted os started H enc)

end Go.Proofs.YtmgidnjpkbgmgabGreatDoor
