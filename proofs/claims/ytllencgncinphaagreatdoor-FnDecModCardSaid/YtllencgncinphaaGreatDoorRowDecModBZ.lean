/- The row of FnDecMod. -/
import Derived.Test.YtllencgncinphaaGreatDoorRowDecModAZ
namespace Go.Proofs.YtllencgncinphaaGreatDoor
open Go Go.ChangeShapes Go.WideShapes Go.ChangeAt Go.RowKit Go.Lib Go.Joins

theorem fnDecMod_k3 : mapsRowed Tryz.prog = true := by kernel_rfl

theorem fnDecMod_k10 : (Rows.fnDecModRow.inPlace == Tryz.prog.inPlace 5) = true := by kernel_rfl

theorem fnDecMod_k11 : (Rows.fnDecModRow.unfollowed == Tryz.prog.unfollowed 5) = true := by kernel_rfl

theorem fnDecMod_k12 : (Rows.fnDecModRow.recurses == Tryz.prog.recurses 5) = true := by kernel_rfl

theorem fnDecMod_k13 : (Rows.fnDecModRow.named == Tryz.prog.varsNamed 5) = true := by kernel_rfl

theorem fnDecMod_closed : joinedFacts Tryz.prog 5 Tryz.f5 Rows.fnDecModSpec Rows.fnDecModRow = true := by
  unfold joinedFacts
  rw [fnDecMod_k3, fnDecMod_k10, fnDecMod_k11, fnDecMod_k12, fnDecMod_k13, rw_laidOut]
  kernel_rfl

theorem fnDecMod_wrap : Tryz.f5.isWrapper Tryz.prog Rows.fnDecModRow.wrapper Rows.fnDecModRow.mainSum := by
  unfold Func.isWrapper; first | (rw [if_pos (by decide +kernel)]; kernel_rfl) | (rw [if_neg (by decide +kernel)]; exact ⟨rfl, rfl⟩)

theorem fnDecMod_row_holds : Rows.FnDecModSaid :=
  OpenClaim.holds_of_wide 5 Tryz.f5 rfl rfl rfl rfl rfl rfl rfl ⟨rfl, rfl, rfl, rfl, rfl⟩ rfl rfl rfl rfl rfl (by kernel_rfl) Tryz.func5 fnDecMod_closed
    (of_decide_eq_true (by kernel_rfl)) fnDecMod_wrap
    (fun os started H enc _ => fnDecMod_lifted os started H enc)

end Go.Proofs.YtllencgncinphaaGreatDoor
