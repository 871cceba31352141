/- The row of FnFixMulExact. -/
import Derived.Test.YtjdfapoomjeabaaGreatDoorRowMulExactAZ
namespace Go.Proofs.YtjdfapoomjeabaaGreatDoor
open Go Go.ChangeShapes Go.WideShapes Go.ChangeAt Go.RowKit Go.Lib Go.Joins

theorem fnFixMulExact_k3 : mapsRowed Tryz.prog = true := by kernel_rfl

theorem fnFixMulExact_k10 : (Rows.fnFixMulExactRow.inPlace == Tryz.prog.inPlace 12) = true := by kernel_rfl

theorem fnFixMulExact_k11 : (Rows.fnFixMulExactRow.unfollowed == Tryz.prog.unfollowed 12) = true := by kernel_rfl

theorem fnFixMulExact_k12 : (Rows.fnFixMulExactRow.recurses == Tryz.prog.recurses 12) = true := by kernel_rfl

theorem fnFixMulExact_k13 : (Rows.fnFixMulExactRow.named == Tryz.prog.varsNamed 12) = true := by kernel_rfl

theorem fnFixMulExact_closed : joinedFacts Tryz.prog 12 Tryz.f12 Rows.fnFixMulExactSpec Rows.fnFixMulExactRow = true := by
  unfold joinedFacts
  rw [fnFixMulExact_k3, fnFixMulExact_k10, fnFixMulExact_k11, fnFixMulExact_k12, fnFixMulExact_k13, rw_laidOut]
  kernel_rfl

theorem fnFixMulExact_wrap : Tryz.f12.isWrapper Tryz.prog Rows.fnFixMulExactRow.wrapper Rows.fnFixMulExactRow.mainSum := by
  unfold Func.isWrapper; first | (rw [if_pos (by decide +kernel)]; kernel_rfl) | (rw [if_neg (by decide +kernel)]; exact ⟨rfl, rfl⟩)

theorem fnFixMulExact_row_holds : Rows.FnFixMulExactSaid :=
  OpenClaim.holds_of_wide 12 Tryz.f12 rfl rfl rfl rfl rfl rfl rfl ⟨rfl, rfl, rfl, rfl, rfl⟩ rfl rfl rfl rfl rfl (by kernel_rfl) Tryz.func12 fnFixMulExact_closed
    (of_decide_eq_true (by kernel_rfl)) fnFixMulExact_wrap
    (fun os started H enc _ => fnFixMulExact_lifted os started H enc)

end Go.Proofs.YtjdfapoomjeabaaGreatDoor
