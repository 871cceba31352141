/- The row of FnFixAddMul. -/
import Derived.Test.YtjdfapoomjeabaaGreatDoorRowAddMulAZ
namespace Go.Proofs.YtjdfapoomjeabaaGreatDoor
open Go Go.ChangeShapes Go.WideShapes Go.ChangeAt Go.RowKit Go.Lib Go.Joins

theorem fnFixAddMul_k3 : mapsRowed Tryz.prog = true := by kernel_rfl

theorem fnFixAddMul_k10 : (Rows.fnFixAddMulRow.inPlace == Tryz.prog.inPlace 8) = true := by kernel_rfl

theorem fnFixAddMul_k11 : (Rows.fnFixAddMulRow.unfollowed == Tryz.prog.unfollowed 8) = true := by kernel_rfl

theorem fnFixAddMul_k12 : (Rows.fnFixAddMulRow.recurses == Tryz.prog.recurses 8) = true := by kernel_rfl

theorem fnFixAddMul_k13 : (Rows.fnFixAddMulRow.named == Tryz.prog.varsNamed 8) = true := by kernel_rfl

theorem fnFixAddMul_closed : joinedFacts Tryz.prog 8 Tryz.f8 Rows.fnFixAddMulSpec Rows.fnFixAddMulRow = true := by
  unfold joinedFacts
  rw [fnFixAddMul_k3, fnFixAddMul_k10, fnFixAddMul_k11, fnFixAddMul_k12, fnFixAddMul_k13, rw_laidOut]
  kernel_rfl

theorem fnFixAddMul_wrap : Tryz.f8.isWrapper Tryz.prog Rows.fnFixAddMulRow.wrapper Rows.fnFixAddMulRow.mainSum := by
  unfold Func.isWrapper; first | (rw [if_pos (by decide +kernel)]; kernel_rfl) | (rw [if_neg (by decide +kernel)]; exact ⟨rfl, rfl⟩)

theorem fnFixAddMul_row_holds : Rows.FnFixAddMulSaid :=
  OpenClaim.holds_of_wide 8 Tryz.f8 rfl rfl rfl rfl rfl rfl rfl ⟨rfl, rfl, rfl, rfl, rfl⟩ rfl rfl rfl rfl rfl (by kernel_rfl) Tryz.func8 fnFixAddMul_closed
    (of_decide_eq_true (by kernel_rfl)) fnFixAddMul_wrap
    (fun os started H enc _ => fnFixAddMul_lifted os started H enc)

end Go.Proofs.YtjdfapoomjeabaaGreatDoor
