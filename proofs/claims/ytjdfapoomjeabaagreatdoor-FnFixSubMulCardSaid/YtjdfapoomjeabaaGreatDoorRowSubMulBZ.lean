/- The row of FnFixSubMul. -/
import Derived.Test.YtjdfapoomjeabaaGreatDoorRowSubMulAZ
namespace Go.Proofs.YtjdfapoomjeabaaGreatDoor
open Go Go.ChangeShapes Go.WideShapes Go.ChangeAt Go.RowKit Go.Lib Go.Joins

theorem fnFixSubMul_k3 : mapsRowed Tryz.prog = true := by kernel_rfl

theorem fnFixSubMul_k10 : (Rows.fnFixSubMulRow.inPlace == Tryz.prog.inPlace 9) = true := by kernel_rfl

theorem fnFixSubMul_k11 : (Rows.fnFixSubMulRow.unfollowed == Tryz.prog.unfollowed 9) = true := by kernel_rfl

theorem fnFixSubMul_k12 : (Rows.fnFixSubMulRow.recurses == Tryz.prog.recurses 9) = true := by kernel_rfl

theorem fnFixSubMul_k13 : (Rows.fnFixSubMulRow.named == Tryz.prog.varsNamed 9) = true := by kernel_rfl

theorem fnFixSubMul_closed : joinedFacts Tryz.prog 9 Tryz.f9 Rows.fnFixSubMulSpec Rows.fnFixSubMulRow = true := by
  unfold joinedFacts
  rw [fnFixSubMul_k3, fnFixSubMul_k10, fnFixSubMul_k11, fnFixSubMul_k12, fnFixSubMul_k13, rw_laidOut]
  kernel_rfl

theorem fnFixSubMul_wrap : Tryz.f9.isWrapper Tryz.prog Rows.fnFixSubMulRow.wrapper Rows.fnFixSubMulRow.mainSum := by
  unfold Func.isWrapper; first | (rw [if_pos (by decide +kernel)]; kernel_rfl) | (rw [if_neg (by decide +kernel)]; exact ⟨rfl, rfl⟩)

theorem fnFixSubMul_row_holds : Rows.FnFixSubMulSaid :=
  OpenClaim.holds_of_wide 9 Tryz.f9 rfl rfl rfl rfl rfl rfl rfl ⟨rfl, rfl, rfl, rfl, rfl⟩ rfl rfl rfl rfl rfl (by kernel_rfl) Tryz.func9 fnFixSubMul_closed
    (of_decide_eq_true (by kernel_rfl)) fnFixSubMul_wrap
    (fun os started H enc _ => fnFixSubMul_lifted os started H enc)

end Go.Proofs.YtjdfapoomjeabaaGreatDoor
