/- The row of FnFixAddExact. -/
import Derived.Test.YtjdfapoomjeabaaGreatDoorRowAddExactAZ
namespace Go.Proofs.YtjdfapoomjeabaaGreatDoor
open Go Go.ChangeShapes Go.WideShapes Go.ChangeAt Go.RowKit Go.Lib Go.Joins

theorem fnFixAddExact_k3 : mapsRowed Tryz.prog = true := by kernel_rfl

theorem fnFixAddExact_k10 : (Rows.fnFixAddExactRow.inPlace == Tryz.prog.inPlace 7) = true := by kernel_rfl

theorem fnFixAddExact_k11 : (Rows.fnFixAddExactRow.unfollowed == Tryz.prog.unfollowed 7) = true := by kernel_rfl

theorem fnFixAddExact_k12 : (Rows.fnFixAddExactRow.recurses == Tryz.prog.recurses 7) = true := by kernel_rfl

theorem fnFixAddExact_k13 : (Rows.fnFixAddExactRow.named == Tryz.prog.varsNamed 7) = true := by kernel_rfl

theorem fnFixAddExact_closed : joinedFacts Tryz.prog 7 Tryz.f7 Rows.fnFixAddExactSpec Rows.fnFixAddExactRow = true := by
  unfold joinedFacts
  rw [fnFixAddExact_k3, fnFixAddExact_k10, fnFixAddExact_k11, fnFixAddExact_k12, fnFixAddExact_k13, rw_laidOut]
  kernel_rfl

theorem fnFixAddExact_wrap : Tryz.f7.isWrapper Tryz.prog Rows.fnFixAddExactRow.wrapper Rows.fnFixAddExactRow.mainSum := by
  unfold Func.isWrapper; first | (rw [if_pos (by decide +kernel)]; kernel_rfl) | (rw [if_neg (by decide +kernel)]; exact ⟨rfl, rfl⟩)

theorem fnFixAddExact_row_holds : Rows.FnFixAddExactSaid :=
  OpenClaim.holds_of_wide 7 Tryz.f7 rfl rfl rfl rfl rfl rfl rfl ⟨rfl, rfl, rfl, rfl, rfl⟩ rfl rfl rfl rfl rfl (by kernel_rfl) Tryz.func7 fnFixAddExact_closed
    (of_decide_eq_true (by kernel_rfl)) fnFixAddExact_wrap
    (fun os started H enc _ => fnFixAddExact_lifted os started H enc)

end Go.Proofs.YtjdfapoomjeabaaGreatDoor
