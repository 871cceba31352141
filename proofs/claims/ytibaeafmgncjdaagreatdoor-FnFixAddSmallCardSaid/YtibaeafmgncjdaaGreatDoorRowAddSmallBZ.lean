/- The row of FnFixAddSmall. -/
import Derived.Test.YtibaeafmgncjdaaGreatDoorRowAddSmallAZ
namespace Go.Proofs.YtibaeafmgncjdaaGreatDoor
open Go Go.ChangeShapes Go.WideShapes Go.ChangeAt Go.RowKit Go.Lib Go.Joins

theorem fnFixAddSmall_k3 : mapsRowed Tryz.prog = true := by kernel_rfl

theorem fnFixAddSmall_k10 : (Rows.fnFixAddSmallRow.inPlace == Tryz.prog.inPlace 7) = true := by kernel_rfl

theorem fnFixAddSmall_k11 : (Rows.fnFixAddSmallRow.unfollowed == Tryz.prog.unfollowed 7) = true := by kernel_rfl

theorem fnFixAddSmall_k12 : (Rows.fnFixAddSmallRow.recurses == Tryz.prog.recurses 7) = true := by kernel_rfl

theorem fnFixAddSmall_k13 : (Rows.fnFixAddSmallRow.named == Tryz.prog.varsNamed 7) = true := by kernel_rfl

theorem fnFixAddSmall_closed : joinedFacts Tryz.prog 7 Tryz.f7 Rows.fnFixAddSmallSpec Rows.fnFixAddSmallRow = true := by
  unfold joinedFacts
  rw [fnFixAddSmall_k3, fnFixAddSmall_k10, fnFixAddSmall_k11, fnFixAddSmall_k12, fnFixAddSmall_k13, rw_laidOut]
  kernel_rfl

theorem fnFixAddSmall_wrap : Tryz.f7.isWrapper Tryz.prog Rows.fnFixAddSmallRow.wrapper Rows.fnFixAddSmallRow.mainSum := by
  unfold Func.isWrapper; first | (rw [if_pos (by decide +kernel)]; kernel_rfl) | (rw [if_neg (by decide +kernel)]; exact ⟨rfl, rfl⟩)

theorem fnFixAddSmall_row_holds : Rows.FnFixAddSmallSaid :=
  OpenClaim.holds_of_wide 7 Tryz.f7 rfl rfl rfl rfl rfl rfl rfl ⟨rfl, rfl, rfl, rfl, rfl⟩ rfl rfl rfl rfl rfl (by kernel_rfl) Tryz.func7 fnFixAddSmall_closed
    (of_decide_eq_true (by kernel_rfl)) fnFixAddSmall_wrap
    (fun os started H enc _ => fnFixAddSmall_lifted os started H enc)

end Go.Proofs.YtibaeafmgncjdaaGreatDoor
