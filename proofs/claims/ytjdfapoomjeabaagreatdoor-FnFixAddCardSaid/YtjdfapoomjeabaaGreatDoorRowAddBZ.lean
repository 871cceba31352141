/- The row of FnFixAdd. -/
import Derived.Test.YtjdfapoomjeabaaGreatDoorRowAddAZ
namespace Go.Proofs.YtjdfapoomjeabaaGreatDoor
open Go Go.ChangeShapes Go.WideShapes Go.ChangeAt Go.RowKit Go.Lib Go.Joins

theorem fnFixAdd_k3 : mapsRowed Tryz.prog = true := by kernel_rfl

theorem fnFixAdd_k10 : (Rows.fnFixAddRow.inPlace == Tryz.prog.inPlace 4) = true := by kernel_rfl

theorem fnFixAdd_k11 : (Rows.fnFixAddRow.unfollowed == Tryz.prog.unfollowed 4) = true := by kernel_rfl

theorem fnFixAdd_k12 : (Rows.fnFixAddRow.recurses == Tryz.prog.recurses 4) = true := by kernel_rfl

theorem fnFixAdd_k13 : (Rows.fnFixAddRow.named == Tryz.prog.varsNamed 4) = true := by kernel_rfl

theorem fnFixAdd_closed : joinedFacts Tryz.prog 4 Tryz.f4 Rows.fnFixAddSpec Rows.fnFixAddRow = true := by
  unfold joinedFacts
  rw [fnFixAdd_k3, fnFixAdd_k10, fnFixAdd_k11, fnFixAdd_k12, fnFixAdd_k13, rw_laidOut]
  kernel_rfl

theorem fnFixAdd_wrap : Tryz.f4.isWrapper Tryz.prog Rows.fnFixAddRow.wrapper Rows.fnFixAddRow.mainSum := by
  unfold Func.isWrapper; first | (rw [if_pos (by decide +kernel)]; kernel_rfl) | (rw [if_neg (by decide +kernel)]; exact ⟨rfl, rfl⟩)

theorem fnFixAdd_row_holds : Rows.FnFixAddSaid :=
  OpenClaim.holds_of_wide 4 Tryz.f4 rfl rfl rfl rfl rfl rfl rfl ⟨rfl, rfl, rfl, rfl, rfl⟩ rfl rfl rfl rfl rfl (by kernel_rfl) Tryz.func4 fnFixAdd_closed
    (of_decide_eq_true (by kernel_rfl)) fnFixAdd_wrap
    (fun os started H enc _ => fnFixAdd_lifted os started H enc)

end Go.Proofs.YtjdfapoomjeabaaGreatDoor
