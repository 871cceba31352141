/- The row of FnDecFloor. -/
import Derived.Test.YtllencgncinphaaGreatDoorRowDecFloorAZ
namespace Go.Proofs.YtllencgncinphaaGreatDoor
open Go Go.ChangeShapes Go.WideShapes Go.ChangeAt Go.RowKit Go.Lib Go.Joins

theorem fnDecFloor_k3 : mapsRowed Tryz.prog = true := by kernel_rfl

theorem fnDecFloor_k10 : (Rows.fnDecFloorRow.inPlace == Tryz.prog.inPlace 7) = true := by kernel_rfl

theorem fnDecFloor_k11 : (Rows.fnDecFloorRow.unfollowed == Tryz.prog.unfollowed 7) = true := by kernel_rfl

theorem fnDecFloor_k12 : (Rows.fnDecFloorRow.recurses == Tryz.prog.recurses 7) = true := by kernel_rfl

theorem fnDecFloor_k13 : (Rows.fnDecFloorRow.named == Tryz.prog.varsNamed 7) = true := by kernel_rfl

theorem fnDecFloor_closed : joinedFacts Tryz.prog 7 Tryz.f7 Rows.fnDecFloorSpec Rows.fnDecFloorRow = true := by
  unfold joinedFacts
  rw [fnDecFloor_k3, fnDecFloor_k10, fnDecFloor_k11, fnDecFloor_k12, fnDecFloor_k13, rw_laidOut]
  kernel_rfl

theorem fnDecFloor_wrap : Tryz.f7.isWrapper Tryz.prog Rows.fnDecFloorRow.wrapper Rows.fnDecFloorRow.mainSum := by
  unfold Func.isWrapper; first | (rw [if_pos (by decide +kernel)]; kernel_rfl) | (rw [if_neg (by decide +kernel)]; exact ⟨rfl, rfl⟩)

theorem fnDecFloor_row_holds : Rows.FnDecFloorSaid :=
  OpenClaim.holds_of_wide 7 Tryz.f7 rfl rfl rfl rfl rfl rfl rfl ⟨rfl, rfl, rfl, rfl, rfl⟩ rfl rfl rfl rfl rfl (by kernel_rfl) Tryz.func7 fnDecFloor_closed
    (of_decide_eq_true (by kernel_rfl)) fnDecFloor_wrap
    (fun os started H enc _ => fnDecFloor_lifted os started H enc)

end Go.Proofs.YtllencgncinphaaGreatDoor
