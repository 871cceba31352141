/- The row of FnFixCmpBig. -/
import Derived.Test.YtibaeafmgncjdaaGreatDoorRowCmpBigAZ
namespace Go.Proofs.YtibaeafmgncjdaaGreatDoor
open Go Go.ChangeShapes Go.WideShapes Go.ChangeAt Go.RowKit Go.Lib Go.Joins

theorem fnFixCmpBig_k3 : mapsRowed Tryz.prog = true := by kernel_rfl

theorem fnFixCmpBig_k10 : (Rows.fnFixCmpBigRow.inPlace == Tryz.prog.inPlace 10) = true := by kernel_rfl

theorem fnFixCmpBig_k11 : (Rows.fnFixCmpBigRow.unfollowed == Tryz.prog.unfollowed 10) = true := by kernel_rfl

theorem fnFixCmpBig_k12 : (Rows.fnFixCmpBigRow.recurses == Tryz.prog.recurses 10) = true := by kernel_rfl

theorem fnFixCmpBig_k13 : (Rows.fnFixCmpBigRow.named == Tryz.prog.varsNamed 10) = true := by kernel_rfl

theorem fnFixCmpBig_closed : joinedFacts Tryz.prog 10 Tryz.f10 Rows.fnFixCmpBigSpec Rows.fnFixCmpBigRow = true := by
  unfold joinedFacts
  rw [fnFixCmpBig_k3, fnFixCmpBig_k10, fnFixCmpBig_k11, fnFixCmpBig_k12, fnFixCmpBig_k13, rw_laidOut]
  kernel_rfl

theorem fnFixCmpBig_wrap : Tryz.f10.isWrapper Tryz.prog Rows.fnFixCmpBigRow.wrapper Rows.fnFixCmpBigRow.mainSum := by
  unfold Func.isWrapper; first | (rw [if_pos (by decide +kernel)]; kernel_rfl) | (rw [if_neg (by decide +kernel)]; exact ⟨rfl, rfl⟩)

theorem fnFixCmpBig_row_holds : Rows.FnFixCmpBigSaid :=
  OpenClaim.holds_of_wide 10 Tryz.f10 rfl rfl rfl rfl rfl rfl rfl ⟨rfl, rfl, rfl, rfl, rfl⟩ rfl rfl rfl rfl rfl (by kernel_rfl) Tryz.func10 fnFixCmpBig_closed
    (of_decide_eq_true (by kernel_rfl)) fnFixCmpBig_wrap
    (fun os started H enc _ => fnFixCmpBig_lifted os started H enc)

end Go.Proofs.YtibaeafmgncjdaaGreatDoor
