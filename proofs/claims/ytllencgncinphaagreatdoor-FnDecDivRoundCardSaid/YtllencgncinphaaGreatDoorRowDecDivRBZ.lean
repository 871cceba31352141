/- The row of FnDecDivRound. -/
import Derived.Test.YtllencgncinphaaGreatDoorRowDecDivRAZ
namespace Go.Proofs.YtllencgncinphaaGreatDoor
open Go Go.ChangeShapes Go.WideShapes Go.ChangeAt Go.RowKit Go.Lib Go.Joins

theorem fnDecDivRound_k3 : mapsRowed Tryz.prog = true := by kernel_rfl

theorem fnDecDivRound_k10 : (Rows.fnDecDivRoundRow.inPlace == Tryz.prog.inPlace 8) = true := by kernel_rfl

theorem fnDecDivRound_k11 : (Rows.fnDecDivRoundRow.unfollowed == Tryz.prog.unfollowed 8) = true := by kernel_rfl

theorem fnDecDivRound_k12 : (Rows.fnDecDivRoundRow.recurses == Tryz.prog.recurses 8) = true := by kernel_rfl

theorem fnDecDivRound_k13 : (Rows.fnDecDivRoundRow.named == Tryz.prog.varsNamed 8) = true := by kernel_rfl

theorem fnDecDivRound_closed : joinedFacts Tryz.prog 8 Tryz.f8 Rows.fnDecDivRoundSpec Rows.fnDecDivRoundRow = true := by
  unfold joinedFacts
  rw [fnDecDivRound_k3, fnDecDivRound_k10, fnDecDivRound_k11, fnDecDivRound_k12, fnDecDivRound_k13, rw_laidOut]
  kernel_rfl

theorem fnDecDivRound_wrap : Tryz.f8.isWrapper Tryz.prog Rows.fnDecDivRoundRow.wrapper Rows.fnDecDivRoundRow.mainSum := by
  unfold Func.isWrapper; first | (rw [if_pos (by decide +kernel)]; kernel_rfl) | (rw [if_neg (by decide +kernel)]; exact ⟨rfl, rfl⟩)

theorem fnDecDivRound_row_holds : Rows.FnDecDivRoundSaid :=
  OpenClaim.holds_of_wide 8 Tryz.f8 rfl rfl rfl rfl rfl rfl rfl ⟨rfl, rfl, rfl, rfl, rfl⟩ rfl rfl rfl rfl rfl (by kernel_rfl) Tryz.func8 fnDecDivRound_closed
    (of_decide_eq_true (by kernel_rfl)) fnDecDivRound_wrap
    (fun os started H enc _ => fnDecDivRound_lifted os started H enc)

end Go.Proofs.YtllencgncinphaaGreatDoor
