/- The row of FnDecRescale. -/
import Derived.Test.YtllencgncinphaaGreatDoorRowDecRescAZ
namespace Go.Proofs.YtllencgncinphaaGreatDoor
open Go Go.ChangeShapes Go.WideShapes Go.ChangeAt Go.RowKit Go.Lib Go.Joins

theorem fnDecRescale_k3 : mapsRowed Tryz.prog = true := by kernel_rfl

theorem fnDecRescale_k10 : (Rows.fnDecRescaleRow.inPlace == Tryz.prog.inPlace 3) = true := by kernel_rfl

theorem fnDecRescale_k11 : (Rows.fnDecRescaleRow.unfollowed == Tryz.prog.unfollowed 3) = true := by kernel_rfl

theorem fnDecRescale_k12 : (Rows.fnDecRescaleRow.recurses == Tryz.prog.recurses 3) = true := by kernel_rfl

theorem fnDecRescale_k13 : (Rows.fnDecRescaleRow.named == Tryz.prog.varsNamed 3) = true := by kernel_rfl

theorem fnDecRescale_closed : joinedFacts Tryz.prog 3 Tryz.f3 Rows.fnDecRescaleSpec Rows.fnDecRescaleRow = true := by
  unfold joinedFacts
  rw [fnDecRescale_k3, fnDecRescale_k10, fnDecRescale_k11, fnDecRescale_k12, fnDecRescale_k13, rw_laidOut]
  kernel_rfl

theorem fnDecRescale_wrap : Tryz.f3.isWrapper Tryz.prog Rows.fnDecRescaleRow.wrapper Rows.fnDecRescaleRow.mainSum := by
  unfold Func.isWrapper; first | (rw [if_pos (by decide +kernel)]; kernel_rfl) | (rw [if_neg (by decide +kernel)]; exact ⟨rfl, rfl⟩)

theorem fnDecRescale_row_holds : Rows.FnDecRescaleSaid :=
  OpenClaim.holds_of_wide 3 Tryz.f3 rfl rfl rfl rfl rfl rfl rfl ⟨rfl, rfl, rfl, rfl, rfl⟩ rfl rfl rfl rfl rfl (by kernel_rfl) Tryz.func3 fnDecRescale_closed
    (of_decide_eq_true (by kernel_rfl)) fnDecRescale_wrap
    (fun os started H enc _ => fnDecRescale_lifted os started H enc)

end Go.Proofs.YtllencgncinphaaGreatDoor
