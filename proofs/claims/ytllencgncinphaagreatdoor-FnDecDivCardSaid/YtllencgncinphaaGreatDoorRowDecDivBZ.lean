/- The row of FnDecDiv. -/
import Derived.Test.YtllencgncinphaaGreatDoorRowDecDivAZ
namespace Go.Proofs.YtllencgncinphaaGreatDoor
open Go Go.ChangeShapes Go.WideShapes Go.ChangeAt Go.RowKit Go.Lib Go.Joins

theorem fnDecDiv_k3 : mapsRowed Tryz.prog = true := by kernel_rfl

theorem fnDecDiv_k10 : (Rows.fnDecDivRow.inPlace == Tryz.prog.inPlace 9) = true := by kernel_rfl

theorem fnDecDiv_k11 : (Rows.fnDecDivRow.unfollowed == Tryz.prog.unfollowed 9) = true := by kernel_rfl

theorem fnDecDiv_k12 : (Rows.fnDecDivRow.recurses == Tryz.prog.recurses 9) = true := by kernel_rfl

theorem fnDecDiv_k13 : (Rows.fnDecDivRow.named == Tryz.prog.varsNamed 9) = true := by kernel_rfl

theorem fnDecDiv_closed : joinedFacts Tryz.prog 9 Tryz.f9 Rows.fnDecDivSpec Rows.fnDecDivRow = true := by
  unfold joinedFacts
  rw [fnDecDiv_k3, fnDecDiv_k10, fnDecDiv_k11, fnDecDiv_k12, fnDecDiv_k13, rw_laidOut]
  kernel_rfl

theorem fnDecDiv_wrap : Tryz.f9.isWrapper Tryz.prog Rows.fnDecDivRow.wrapper Rows.fnDecDivRow.mainSum := by
  unfold Func.isWrapper; first | (rw [if_pos (by decide +kernel)]; kernel_rfl) | (rw [if_neg (by decide +kernel)]; exact ⟨rfl, rfl⟩)

theorem fnDecDiv_row_holds : Rows.FnDecDivSaid :=
  OpenClaim.holds_of_wide 9 Tryz.f9 rfl rfl rfl rfl rfl rfl rfl ⟨rfl, rfl, rfl, rfl, rfl⟩ rfl rfl rfl rfl rfl (by kernel_rfl) Tryz.func9 fnDecDiv_closed
    (of_decide_eq_true (by kernel_rfl)) fnDecDiv_wrap
    (fun os started H enc _ => fnDecDiv_lifted os started H enc)

end Go.Proofs.YtllencgncinphaaGreatDoor
