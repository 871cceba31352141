/- The row of FnDecQuoRem. -/
import Derived.Test.YtllencgncinphaaGreatDoorRowDecQuoRemAZ
namespace Go.Proofs.YtllencgncinphaaGreatDoor
open Go Go.ChangeShapes Go.WideShapes Go.ChangeAt Go.RowKit Go.Lib Go.Joins

theorem fnDecQuoRem_k3 : mapsRowed Tryz.prog = true := by kernel_rfl

theorem fnDecQuoRem_k10 : (Rows.fnDecQuoRemRow.inPlace == Tryz.prog.inPlace 4) = true := by kernel_rfl

theorem fnDecQuoRem_k11 : (Rows.fnDecQuoRemRow.unfollowed == Tryz.prog.unfollowed 4) = true := by kernel_rfl

theorem fnDecQuoRem_k12 : (Rows.fnDecQuoRemRow.recurses == Tryz.prog.recurses 4) = true := by kernel_rfl

theorem fnDecQuoRem_k13 : (Rows.fnDecQuoRemRow.named == Tryz.prog.varsNamed 4) = true := by kernel_rfl

theorem fnDecQuoRem_closed : joinedFacts Tryz.prog 4 Tryz.f4 Rows.fnDecQuoRemSpec Rows.fnDecQuoRemRow = true := by
  unfold joinedFacts
  rw [fnDecQuoRem_k3, fnDecQuoRem_k10, fnDecQuoRem_k11, fnDecQuoRem_k12, fnDecQuoRem_k13, rw_laidOut]
  kernel_rfl

theorem fnDecQuoRem_wrap : Tryz.f4.isWrapper Tryz.prog Rows.fnDecQuoRemRow.wrapper Rows.fnDecQuoRemRow.mainSum := by
  unfold Func.isWrapper; first | (rw [if_pos (by decide +kernel)]; kernel_rfl) | (rw [if_neg (by decide +kernel)]; exact ⟨rfl, rfl⟩)

theorem fnDecQuoRem_row_holds : Rows.FnDecQuoRemSaid :=
  OpenClaim.holds_of_wide 4 Tryz.f4 rfl rfl rfl rfl rfl rfl rfl ⟨rfl, rfl, rfl, rfl, rfl⟩ rfl rfl rfl rfl rfl (by kernel_rfl) Tryz.func4 fnDecQuoRem_closed
    (of_decide_eq_true (by kernel_rfl)) fnDecQuoRem_wrap
    (fun os started H enc _ => fnDecQuoRem_lifted os started H enc)

end Go.Proofs.YtllencgncinphaaGreatDoor
