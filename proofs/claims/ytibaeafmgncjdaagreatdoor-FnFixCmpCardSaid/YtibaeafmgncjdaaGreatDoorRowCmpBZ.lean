/- The row of FnFixCmp. -/
import Derived.Test.YtibaeafmgncjdaaGreatDoorRowCmpAZ
namespace Go.Proofs.YtibaeafmgncjdaaGreatDoor
open Go Go.ChangeShapes Go.WideShapes Go.ChangeAt Go.RowKit Go.Lib Go.Joins

theorem fnFixCmp_k3 : mapsRowed Tryz.prog = true := by kernel_rfl

theorem fnFixCmp_k10 : (Rows.fnFixCmpRow.inPlace == Tryz.prog.inPlace 3) = true := by kernel_rfl

theorem fnFixCmp_k11 : (Rows.fnFixCmpRow.unfollowed == Tryz.prog.unfollowed 3) = true := by kernel_rfl

theorem fnFixCmp_k12 : (Rows.fnFixCmpRow.recurses == Tryz.prog.recurses 3) = true := by kernel_rfl

theorem fnFixCmp_k13 : (Rows.fnFixCmpRow.named == Tryz.prog.varsNamed 3) = true := by kernel_rfl

theorem fnFixCmp_closed : joinedFacts Tryz.prog 3 Tryz.f3 Rows.fnFixCmpSpec Rows.fnFixCmpRow = true := by
  unfold joinedFacts
  rw [fnFixCmp_k3, fnFixCmp_k10, fnFixCmp_k11, fnFixCmp_k12, fnFixCmp_k13, rw_laidOut]
  kernel_rfl

theorem fnFixCmp_wrap : Tryz.f3.isWrapper Tryz.prog Rows.fnFixCmpRow.wrapper Rows.fnFixCmpRow.mainSum := by
  unfold Func.isWrapper; first | (rw [if_pos (by decide +kernel)]; kernel_rfl) | (rw [if_neg (by decide +kernel)]; exact ⟨rfl, rfl⟩)

theorem fnFixCmp_row_holds : Rows.FnFixCmpSaid :=
  OpenClaim.holds_of_wide 3 Tryz.f3 rfl rfl rfl rfl rfl rfl rfl ⟨rfl, rfl, rfl, rfl, rfl⟩ rfl rfl rfl rfl rfl (by kernel_rfl) Tryz.func3 fnFixCmp_closed
    (of_decide_eq_true (by kernel_rfl)) fnFixCmp_wrap
    (fun os started H enc _ => fnFixCmp_lifted os started H enc)

end Go.Proofs.YtibaeafmgncjdaaGreatDoor
