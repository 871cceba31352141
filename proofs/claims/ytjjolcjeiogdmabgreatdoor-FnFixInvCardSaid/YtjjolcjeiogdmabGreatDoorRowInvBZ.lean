/- The row of FnFixInv. -/
import Derived.Test.YtjjolcjeiogdmabGreatDoorRowInvAZ
namespace Go.Proofs.YtjjolcjeiogdmabGreatDoor
open Go Go.ChangeShapes Go.WideShapes Go.ChangeAt Go.RowKit Go.Lib Go.Joins

theorem fnFixInv_k3 : mapsRowed Tryz.prog = true := by kernel_rfl

theorem fnFixInv_k10 : (Rows.fnFixInvRow.inPlace == Tryz.prog.inPlace 3) = true := by kernel_rfl

theorem fnFixInv_k11 : (Rows.fnFixInvRow.unfollowed == Tryz.prog.unfollowed 3) = true := by kernel_rfl

theorem fnFixInv_k12 : (Rows.fnFixInvRow.recurses == Tryz.prog.recurses 3) = true := by kernel_rfl

theorem fnFixInv_k13 : (Rows.fnFixInvRow.named == Tryz.prog.varsNamed 3) = true := by kernel_rfl

theorem fnFixInv_closed : joinedFacts Tryz.prog 3 Tryz.f3 Rows.fnFixInvSpec Rows.fnFixInvRow = true := by
  unfold joinedFacts
  rw [fnFixInv_k3, fnFixInv_k10, fnFixInv_k11, fnFixInv_k12, fnFixInv_k13, rw_laidOut]
  kernel_rfl

theorem fnFixInv_wrap : Tryz.f3.isWrapper Tryz.prog Rows.fnFixInvRow.wrapper Rows.fnFixInvRow.mainSum := by
  unfold Func.isWrapper; first | (rw [if_pos (by decide +kernel)]; kernel_rfl) | (rw [if_neg (by decide +kernel)]; exact ⟨rfl, rfl⟩)

theorem fnFixInv_row_holds : Rows.FnFixInvSaid :=
  OpenClaim.holds_of_wide 3 Tryz.f3 rfl rfl rfl rfl rfl rfl rfl ⟨rfl, rfl, rfl, rfl, rfl⟩ rfl rfl rfl rfl rfl (by kernel_rfl) Tryz.func3 fnFixInv_closed
    (of_decide_eq_true (by kernel_rfl)) fnFixInv_wrap
    (fun os started H enc _ => fnFixInv_lifted os started H enc)

end Go.Proofs.YtjjolcjeiogdmabGreatDoor
