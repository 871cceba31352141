/- The row of FnDecTruncate. -/
import Derived.Test.YtllencgncinphaaGreatDoorRowDecTruncAZ
namespace Go.Proofs.YtllencgncinphaaGreatDoor
open Go Go.ChangeShapes Go.WideShapes Go.ChangeAt Go.RowKit Go.Lib Go.Joins

theorem fnDecTruncate_k3 : mapsRowed Tryz.prog = true := by kernel_rfl

theorem fnDecTruncate_k10 : (Rows.fnDecTruncateRow.inPlace == Tryz.prog.inPlace 6) = true := by kernel_rfl

theorem fnDecTruncate_k11 : (Rows.fnDecTruncateRow.unfollowed == Tryz.prog.unfollowed 6) = true := by kernel_rfl

theorem fnDecTruncate_k12 : (Rows.fnDecTruncateRow.recurses == Tryz.prog.recurses 6) = true := by kernel_rfl

theorem fnDecTruncate_k13 : (Rows.fnDecTruncateRow.named == Tryz.prog.varsNamed 6) = true := by kernel_rfl

theorem fnDecTruncate_closed : joinedFacts Tryz.prog 6 Tryz.f6 Rows.fnDecTruncateSpec Rows.fnDecTruncateRow = true := by
  unfold joinedFacts
  rw [fnDecTruncate_k3, fnDecTruncate_k10, fnDecTruncate_k11, fnDecTruncate_k12, fnDecTruncate_k13, rw_laidOut]
  kernel_rfl

theorem fnDecTruncate_wrap : Tryz.f6.isWrapper Tryz.prog Rows.fnDecTruncateRow.wrapper Rows.fnDecTruncateRow.mainSum := by
  unfold Func.isWrapper; first | (rw [if_pos (by decide +kernel)]; kernel_rfl) | (rw [if_neg (by decide +kernel)]; exact ⟨rfl, rfl⟩)

theorem fnDecTruncate_row_holds : Rows.FnDecTruncateSaid :=
  OpenClaim.holds_of_wide 6 Tryz.f6 rfl rfl rfl rfl rfl rfl rfl ⟨rfl, rfl, rfl, rfl, rfl⟩ rfl rfl rfl rfl rfl (by kernel_rfl) Tryz.func6 fnDecTruncate_closed
    (of_decide_eq_true (by kernel_rfl)) fnDecTruncate_wrap
    (fun os started H enc _ => fnDecTruncate_lifted os started H enc)

end Go.Proofs.YtllencgncinphaaGreatDoor
