/- The row of FnDecPair. -/
import Derived.Test.YtjjolcjeiogdmaaGreatDoorRowDecPairAZ
namespace Go.Proofs.YtjjolcjeiogdmaaGreatDoor
open Go Go.ChangeShapes Go.WideShapes Go.ChangeAt Go.RowKit Go.Lib Go.Joins

theorem fnDecPair_k3 : mapsRowed Tryz.prog = true := by kernel_rfl

theorem fnDecPair_k10 : (Rows.fnDecPairRow.inPlace == Tryz.prog.inPlace 4) = true := by kernel_rfl

theorem fnDecPair_k11 : (Rows.fnDecPairRow.unfollowed == Tryz.prog.unfollowed 4) = true := by kernel_rfl

theorem fnDecPair_k12 : (Rows.fnDecPairRow.recurses == Tryz.prog.recurses 4) = true := by kernel_rfl

theorem fnDecPair_k13 : (Rows.fnDecPairRow.named == Tryz.prog.varsNamed 4) = true := by kernel_rfl

theorem fnDecPair_closed : joinedFacts Tryz.prog 4 Tryz.f4 Rows.fnDecPairSpec Rows.fnDecPairRow = true := by
  unfold joinedFacts
  rw [fnDecPair_k3, fnDecPair_k10, fnDecPair_k11, fnDecPair_k12, fnDecPair_k13, rw_laidOut]
  kernel_rfl

theorem fnDecPair_wrap : Tryz.f4.isWrapper Tryz.prog Rows.fnDecPairRow.wrapper Rows.fnDecPairRow.mainSum := by
  unfold Func.isWrapper; first | (rw [if_pos (by decide +kernel)]; kernel_rfl) | (rw [if_neg (by decide +kernel)]; exact ⟨rfl, rfl⟩)

theorem fnDecPair_row_holds : Rows.FnDecPairSaid :=
  OpenClaim.holds_of_wide 4 Tryz.f4 rfl rfl rfl rfl rfl rfl rfl ⟨rfl, rfl, rfl, rfl, rfl⟩ rfl rfl rfl rfl rfl (by kernel_rfl) Tryz.func4 fnDecPair_closed
    (of_decide_eq_true (by kernel_rfl)) fnDecPair_wrap
    (fun os started H enc _ => fnDecPair_lifted os started H enc)

end Go.Proofs.YtjjolcjeiogdmaaGreatDoor
