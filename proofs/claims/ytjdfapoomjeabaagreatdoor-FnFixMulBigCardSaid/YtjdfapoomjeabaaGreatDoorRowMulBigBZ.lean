/- The row of FnFixMulBig. -/
import Derived.Test.YtjdfapoomjeabaaGreatDoorRowMulBigAZ
namespace Go.Proofs.YtjdfapoomjeabaaGreatDoor
open Go Go.ChangeShapes Go.WideShapes Go.ChangeAt Go.RowKit Go.Lib Go.Joins

theorem fnFixMulBig_k3 : mapsRowed Tryz.prog = true := by kernel_rfl

theorem fnFixMulBig_k10 : (Rows.fnFixMulBigRow.inPlace == Tryz.prog.inPlace 10) = true := by kernel_rfl

theorem fnFixMulBig_k11 : (Rows.fnFixMulBigRow.unfollowed == Tryz.prog.unfollowed 10) = true := by kernel_rfl

theorem fnFixMulBig_k12 : (Rows.fnFixMulBigRow.recurses == Tryz.prog.recurses 10) = true := by kernel_rfl

theorem fnFixMulBig_k13 : (Rows.fnFixMulBigRow.named == Tryz.prog.varsNamed 10) = true := by kernel_rfl

theorem fnFixMulBig_closed : joinedFacts Tryz.prog 10 Tryz.f10 Rows.fnFixMulBigSpec Rows.fnFixMulBigRow = true := by
  unfold joinedFacts
  rw [fnFixMulBig_k3, fnFixMulBig_k10, fnFixMulBig_k11, fnFixMulBig_k12, fnFixMulBig_k13, rw_laidOut]
  kernel_rfl

theorem fnFixMulBig_wrap : Tryz.f10.isWrapper Tryz.prog Rows.fnFixMulBigRow.wrapper Rows.fnFixMulBigRow.mainSum := by
  unfold Func.isWrapper; first | (rw [if_pos (by decide +kernel)]; kernel_rfl) | (rw [if_neg (by decide +kernel)]; exact ⟨rfl, rfl⟩)

theorem fnFixMulBig_row_holds : Rows.FnFixMulBigSaid :=
  OpenClaim.holds_of_wide 10 Tryz.f10 rfl rfl rfl rfl rfl rfl rfl ⟨rfl, rfl, rfl, rfl, rfl⟩ rfl rfl rfl rfl rfl (by kernel_rfl) Tryz.func10 fnFixMulBig_closed
    (of_decide_eq_true (by kernel_rfl)) fnFixMulBig_wrap
    (fun os started H enc _ => fnFixMulBig_lifted os started H enc)

end Go.Proofs.YtjdfapoomjeabaaGreatDoor
