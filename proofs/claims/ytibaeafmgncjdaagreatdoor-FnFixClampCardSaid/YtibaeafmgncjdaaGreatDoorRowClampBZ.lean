/- The row of FnFixClamp. -/
import Derived.Test.YtibaeafmgncjdaaGreatDoorRowClampAZ
namespace Go.Proofs.YtibaeafmgncjdaaGreatDoor
open Go Go.ChangeShapes Go.WideShapes Go.ChangeAt Go.RowKit Go.Lib Go.Joins

theorem fnFixClamp_k3 : mapsRowed Tryz.prog = true := by kernel_rfl

theorem fnFixClamp_k10 : (Rows.fnFixClampRow.inPlace == Tryz.prog.inPlace 11) = true := by kernel_rfl

theorem fnFixClamp_k11 : (Rows.fnFixClampRow.unfollowed == Tryz.prog.unfollowed 11) = true := by kernel_rfl

theorem fnFixClamp_k12 : (Rows.fnFixClampRow.recurses == Tryz.prog.recurses 11) = true := by kernel_rfl

theorem fnFixClamp_k13 : (Rows.fnFixClampRow.named == Tryz.prog.varsNamed 11) = true := by kernel_rfl

theorem fnFixClamp_closed : joinedFacts Tryz.prog 11 Tryz.f11 Rows.fnFixClampSpec Rows.fnFixClampRow = true := by
  unfold joinedFacts
  rw [fnFixClamp_k3, fnFixClamp_k10, fnFixClamp_k11, fnFixClamp_k12, fnFixClamp_k13, rw_laidOut]
  kernel_rfl

theorem fnFixClamp_wrap : Tryz.f11.isWrapper Tryz.prog Rows.fnFixClampRow.wrapper Rows.fnFixClampRow.mainSum := by
  unfold Func.isWrapper; first | (rw [if_pos (by decide +kernel)]; kernel_rfl) | (rw [if_neg (by decide +kernel)]; exact ⟨rfl, rfl⟩)

theorem fnFixClamp_row_holds : Rows.FnFixClampSaid :=
  OpenClaim.holds_of_wide 11 Tryz.f11 rfl rfl rfl rfl rfl rfl rfl ⟨rfl, rfl, rfl, rfl, rfl⟩ rfl rfl rfl rfl rfl (by kernel_rfl) Tryz.func11 fnFixClamp_closed
    (of_decide_eq_true (by kernel_rfl)) fnFixClamp_wrap
    (fun os started H enc _ => fnFixClamp_lifted os started H enc)

end Go.Proofs.YtibaeafmgncjdaaGreatDoor
