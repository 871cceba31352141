/- The row of FnFixAddBig. -/
import Derived.Test.YtibaeafmgncjdaaGreatDoorRowAddBigAZ
namespace Go.Proofs.YtibaeafmgncjdaaGreatDoor
open Go Go.ChangeShapes Go.WideShapes Go.ChangeAt Go.RowKit Go.Lib Go.Joins

theorem fnFixAddBig_k3 : mapsRowed Tryz.prog = true := by kernel_rfl

theorem fnFixAddBig_k10 : (Rows.fnFixAddBigRow.inPlace == Tryz.prog.inPlace 6) = true := by kernel_rfl

theorem fnFixAddBig_k11 : (Rows.fnFixAddBigRow.unfollowed == Tryz.prog.unfollowed 6) = true := by kernel_rfl

theorem fnFixAddBig_k12 : (Rows.fnFixAddBigRow.recurses == Tryz.prog.recurses 6) = true := by kernel_rfl

theorem fnFixAddBig_k13 : (Rows.fnFixAddBigRow.named == Tryz.prog.varsNamed 6) = true := by kernel_rfl

theorem fnFixAddBig_closed : joinedFacts Tryz.prog 6 Tryz.f6 Rows.fnFixAddBigSpec Rows.fnFixAddBigRow = true := by
  unfold joinedFacts
  rw [fnFixAddBig_k3, fnFixAddBig_k10, fnFixAddBig_k11, fnFixAddBig_k12, fnFixAddBig_k13, rw_laidOut]
  kernel_rfl

theorem fnFixAddBig_wrap : Tryz.f6.isWrapper Tryz.prog Rows.fnFixAddBigRow.wrapper Rows.fnFixAddBigRow.mainSum := by
  unfold Func.isWrapper; first | (rw [if_pos (by decide +kernel)]; kernel_rfl) | (rw [if_neg (by decide +kernel)]; exact ⟨rfl, rfl⟩)

theorem fnFixAddBig_row_holds : Rows.FnFixAddBigSaid :=
  OpenClaim.holds_of_wide 6 Tryz.f6 rfl rfl rfl rfl rfl rfl rfl ⟨rfl, rfl, rfl, rfl, rfl⟩ rfl rfl rfl rfl rfl (by kernel_rfl) Tryz.func6 fnFixAddBig_closed
    (of_decide_eq_true (by kernel_rfl)) fnFixAddBig_wrap
    (fun os started H enc _ => fnFixAddBig_lifted os started H enc)

end Go.Proofs.YtibaeafmgncjdaaGreatDoor
