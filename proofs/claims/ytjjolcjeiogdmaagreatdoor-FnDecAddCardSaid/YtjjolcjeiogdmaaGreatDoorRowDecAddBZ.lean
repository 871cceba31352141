/- The row of FnDecAdd. -/
import Derived.Test.YtjjolcjeiogdmaaGreatDoorRowDecAddAZ
namespace Go.Proofs.YtjjolcjeiogdmaaGreatDoor
open Go Go.ChangeShapes Go.WideShapes Go.ChangeAt Go.RowKit Go.Lib Go.Joins

theorem fnDecAdd_k3 : mapsRowed Tryz.prog = true := by kernel_rfl

theorem fnDecAdd_k10 : (Rows.fnDecAddRow.inPlace == Tryz.prog.inPlace 5) = true := by kernel_rfl

theorem fnDecAdd_k11 : (Rows.fnDecAddRow.unfollowed == Tryz.prog.unfollowed 5) = true := by kernel_rfl

theorem fnDecAdd_k12 : (Rows.fnDecAddRow.recurses == Tryz.prog.recurses 5) = true := by kernel_rfl

theorem fnDecAdd_k13 : (Rows.fnDecAddRow.named == Tryz.prog.varsNamed 5) = true := by kernel_rfl

theorem fnDecAdd_closed : joinedFacts Tryz.prog 5 Tryz.f5 Rows.fnDecAddSpec Rows.fnDecAddRow = true := by
  unfold joinedFacts
  rw [fnDecAdd_k3, fnDecAdd_k10, fnDecAdd_k11, fnDecAdd_k12, fnDecAdd_k13, rw_laidOut]
  kernel_rfl

theorem fnDecAdd_wrap : Tryz.f5.isWrapper Tryz.prog Rows.fnDecAddRow.wrapper Rows.fnDecAddRow.mainSum := by
  unfold Func.isWrapper; first | (rw [if_pos (by decide +kernel)]; kernel_rfl) | (rw [if_neg (by decide +kernel)]; exact ⟨rfl, rfl⟩)

theorem fnDecAdd_row_holds : Rows.FnDecAddSaid :=
  OpenClaim.holds_of_wide 5 Tryz.f5 rfl rfl rfl rfl rfl rfl rfl ⟨rfl, rfl, rfl, rfl, rfl⟩ rfl rfl rfl rfl rfl (by kernel_rfl) Tryz.func5 fnDecAdd_closed
    (of_decide_eq_true (by kernel_rfl)) fnDecAdd_wrap
    (fun os started H enc _ => fnDecAdd_lifted os started H enc)

end Go.Proofs.YtjjolcjeiogdmaaGreatDoor
