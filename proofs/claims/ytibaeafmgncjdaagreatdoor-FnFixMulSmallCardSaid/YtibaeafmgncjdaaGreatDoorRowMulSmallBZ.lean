/- The row of FnFixMulSmall. -/
import Derived.Test.YtibaeafmgncjdaaGreatDoorRowMulSmallAZ
namespace Go.Proofs.YtibaeafmgncjdaaGreatDoor
open Go Go.ChangeShapes Go.WideShapes Go.ChangeAt Go.RowKit Go.Lib Go.Joins

theorem fnFixMulSmall_k3 : mapsRowed Tryz.prog = true := by kernel_rfl

theorem fnFixMulSmall_k10 : (Rows.fnFixMulSmallRow.inPlace == Tryz.prog.inPlace 8) = true := by kernel_rfl

theorem fnFixMulSmall_k11 : (Rows.fnFixMulSmallRow.unfollowed == Tryz.prog.unfollowed 8) = true := by kernel_rfl

theorem fnFixMulSmall_k12 : (Rows.fnFixMulSmallRow.recurses == Tryz.prog.recurses 8) = true := by kernel_rfl

theorem fnFixMulSmall_k13 : (Rows.fnFixMulSmallRow.named == Tryz.prog.varsNamed 8) = true := by kernel_rfl

theorem fnFixMulSmall_closed : joinedFacts Tryz.prog 8 Tryz.f8 Rows.fnFixMulSmallSpec Rows.fnFixMulSmallRow = true := by
  unfold joinedFacts
  rw [fnFixMulSmall_k3, fnFixMulSmall_k10, fnFixMulSmall_k11, fnFixMulSmall_k12, fnFixMulSmall_k13, rw_laidOut]
  kernel_rfl

theorem fnFixMulSmall_wrap : Tryz.f8.isWrapper Tryz.prog Rows.fnFixMulSmallRow.wrapper Rows.fnFixMulSmallRow.mainSum := by
  unfold Func.isWrapper; first | (rw [if_pos (by decide +kernel)]; kernel_rfl) | (rw [if_neg (by decide +kernel)]; exact ⟨rfl, rfl⟩)

theorem fnFixMulSmall_row_holds : Rows.FnFixMulSmallSaid :=
  OpenClaim.holds_of_wide 8 Tryz.f8 rfl rfl rfl rfl rfl rfl rfl ⟨rfl, rfl, rfl, rfl, rfl⟩ rfl rfl rfl rfl rfl (by kernel_rfl) Tryz.func8 fnFixMulSmall_closed
    (of_decide_eq_true (by kernel_rfl)) fnFixMulSmall_wrap
    (fun os started H enc _ => fnFixMulSmall_lifted os started H enc)

end Go.Proofs.YtibaeafmgncjdaaGreatDoor
