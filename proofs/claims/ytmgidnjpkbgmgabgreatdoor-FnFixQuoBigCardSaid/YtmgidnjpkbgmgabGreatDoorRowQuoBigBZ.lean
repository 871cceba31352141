/- The row of FnFixQuoBig. -/
import Derived.Test.YtmgidnjpkbgmgabGreatDoorRowQuoBigAZ
namespace Go.Proofs.YtmgidnjpkbgmgabGreatDoor
open Go Go.ChangeShapes Go.WideShapes Go.ChangeAt Go.RowKit Go.Lib Go.Joins

theorem fnFixQuoBig_k3 : mapsRowed Tryz.prog = true := by kernel_rfl

theorem fnFixQuoBig_k10 : (Rows.fnFixQuoBigRow.inPlace == Tryz.prog.inPlace 7) = true := by kernel_rfl

theorem fnFixQuoBig_k11 : (Rows.fnFixQuoBigRow.unfollowed == Tryz.prog.unfollowed 7) = true := by kernel_rfl

theorem fnFixQuoBig_k12 : (Rows.fnFixQuoBigRow.recurses == Tryz.prog.recurses 7) = true := by kernel_rfl

theorem fnFixQuoBig_k13 : (Rows.fnFixQuoBigRow.named == Tryz.prog.varsNamed 7) = true := by kernel_rfl

theorem fnFixQuoBig_closed : joinedFacts Tryz.prog 7 Tryz.f7 Rows.fnFixQuoBigSpec Rows.fnFixQuoBigRow = true := by
  unfold joinedFacts
  rw [fnFixQuoBig_k3, fnFixQuoBig_k10, fnFixQuoBig_k11, fnFixQuoBig_k12, fnFixQuoBig_k13, rw_laidOut]
  kernel_rfl

theorem fnFixQuoBig_wrap : Tryz.f7.isWrapper Tryz.prog Rows.fnFixQuoBigRow.wrapper Rows.fnFixQuoBigRow.mainSum := by
  unfold Func.isWrapper; first | (rw [if_pos (by decide +kernel)]; kernel_rfl) | (rw [if_neg (by decide +kernel)]; exact ⟨rfl, rfl⟩)

theorem fnFixQuoBig_row_holds : Rows.FnFixQuoBigSaid :=
  OpenClaim.holds_of_wide 7 Tryz.f7 rfl rfl rfl rfl rfl rfl rfl ⟨rfl, rfl, rfl, rfl, rfl⟩ rfl rfl rfl rfl rfl (by kernel_rfl) Tryz.func7 fnFixQuoBig_closed
    (of_decide_eq_true (by kernel_rfl)) fnFixQuoBig_wrap
    (fun os started H enc _ => fnFixQuoBig_lifted os started H enc)

end Go.Proofs.YtmgidnjpkbgmgabGreatDoor
