/- The row of FnDecCmp. -/
import Derived.Test.YtjjolcjeiogdmaaGreatDoorRowDecCmpAZ
namespace Go.Proofs.YtjjolcjeiogdmaaGreatDoor
open Go Go.ChangeShapes Go.WideShapes Go.ChangeAt Go.RowKit Go.Lib Go.Joins

theorem fnDecCmp_k3 : mapsRowed Tryz.prog = true := by kernel_rfl

theorem fnDecCmp_k10 : (Rows.fnDecCmpRow.inPlace == Tryz.prog.inPlace 3) = true := by kernel_rfl

theorem fnDecCmp_k11 : (Rows.fnDecCmpRow.unfollowed == Tryz.prog.unfollowed 3) = true := by kernel_rfl

theorem fnDecCmp_k12 : (Rows.fnDecCmpRow.recurses == Tryz.prog.recurses 3) = true := by kernel_rfl

theorem fnDecCmp_k13 : (Rows.fnDecCmpRow.named == Tryz.prog.varsNamed 3) = true := by kernel_rfl

theorem fnDecCmp_closed : joinedFacts Tryz.prog 3 Tryz.f3 Rows.fnDecCmpSpec Rows.fnDecCmpRow = true := by
  unfold joinedFacts
  rw [fnDecCmp_k3, fnDecCmp_k10, fnDecCmp_k11, fnDecCmp_k12, fnDecCmp_k13, rw_laidOut]
  kernel_rfl

theorem fnDecCmp_wrap : Tryz.f3.isWrapper Tryz.prog Rows.fnDecCmpRow.wrapper Rows.fnDecCmpRow.mainSum := by
  unfold Func.isWrapper; first | (rw [if_pos (by decide +kernel)]; kernel_rfl) | (rw [if_neg (by decide +kernel)]; exact ⟨rfl, rfl⟩)

theorem fnDecCmp_row_holds : Rows.FnDecCmpSaid :=
  OpenClaim.holds_of_wide 3 Tryz.f3 rfl rfl rfl rfl rfl rfl rfl ⟨rfl, rfl, rfl, rfl, rfl⟩ rfl rfl rfl rfl rfl (by kernel_rfl) Tryz.func3 fnDecCmp_closed
    (of_decide_eq_true (by kernel_rfl)) fnDecCmp_wrap
    (fun os started H enc _ => fnDecCmp_lifted os started H enc)

end Go.Proofs.YtjjolcjeiogdmaaGreatDoor
