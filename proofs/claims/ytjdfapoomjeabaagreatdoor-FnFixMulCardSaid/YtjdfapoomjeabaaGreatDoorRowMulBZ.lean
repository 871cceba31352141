/- The row of FnFixMul. -/
import Derived.Test.YtjdfapoomjeabaaGreatDoorRowMulAZ
namespace Go.Proofs.YtjdfapoomjeabaaGreatDoor
open Go Go.ChangeShapes Go.WideShapes Go.ChangeAt Go.RowKit Go.Lib Go.Joins

theorem fnFixMul_k3 : mapsRowed Tryz.prog = true := by kernel_rfl

theorem fnFixMul_k10 : (Rows.fnFixMulRow.inPlace == Tryz.prog.inPlace 3) = true := by kernel_rfl

theorem fnFixMul_k11 : (Rows.fnFixMulRow.unfollowed == Tryz.prog.unfollowed 3) = true := by kernel_rfl

theorem fnFixMul_k12 : (Rows.fnFixMulRow.recurses == Tryz.prog.recurses 3) = true := by kernel_rfl

theorem fnFixMul_k13 : (Rows.fnFixMulRow.named == Tryz.prog.varsNamed 3) = true := by kernel_rfl

theorem fnFixMul_closed : joinedFacts Tryz.prog 3 Tryz.f3 Rows.fnFixMulSpec Rows.fnFixMulRow = true := by
  unfold joinedFacts
  rw [fnFixMul_k3, fnFixMul_k10, fnFixMul_k11, fnFixMul_k12, fnFixMul_k13, rw_laidOut]
  kernel_rfl

theorem fnFixMul_wrap : Tryz.f3.isWrapper Tryz.prog Rows.fnFixMulRow.wrapper Rows.fnFixMulRow.mainSum := by
  unfold Func.isWrapper; first | (rw [if_pos (by decide +kernel)]; kernel_rfl) | (rw [if_neg (by decide +kernel)]; exact ⟨rfl, rfl⟩)

theorem fnFixMul_row_holds : Rows.FnFixMulSaid :=
  OpenClaim.holds_of_wide 3 Tryz.f3 rfl rfl rfl rfl rfl rfl rfl ⟨rfl, rfl, rfl, rfl, rfl⟩ rfl rfl rfl rfl rfl (by kernel_rfl) Tryz.func3 fnFixMul_closed
    (of_decide_eq_true (by kernel_rfl)) fnFixMul_wrap
    (fun os started H enc _ => fnFixMul_lifted os started H enc)

end Go.Proofs.YtjdfapoomjeabaaGreatDoor
