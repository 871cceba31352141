/- The product of two decimals by whole numbers of any length alone is the nearest decimal with at least so many places, or the fault that it has no room for them: for all decimals and numbers of places. The condition: the listed package variables hold what the program's text lays. -/
import Derived.Test.YtjdfapoomjeabaaGreatDoorRowMulBigBZ
import Derived.Test.YtjdfapoomjeabaaGreatDoorRowMulBigCZ
import Derived.Test.YtjdfapoomjeabaaGreatDoorK7
import Derived.Test.YtjdfapoomjeabaaGreatDoorTie
import Derived.Test.YtjdfapoomjeabaaGreatDoorCards
import Derived.SevenTiedAt
namespace Go.Proofs.YtjdfapoomjeabaaGreatDoor
open Go Go.ChangeShapes Go.WideShapes Go.ChangeAt Go.RowKit Go.Lib Go.Joins

theorem fnFixMulBig_card_holds : Rows.FnFixMulBigCardSaid :=
  Claim7.holds_tied_plain_at .later [] [.data, .data, .data, .data, .data, .data, .data, .sentinel, .sentinel, .data] true Rows.fnFixMulBigCard.stood.harness false
    fnFixMulBig_row_holds (fun _ h => by cases h) (by kernel_rfl) (fun _ h => by cases h) fnFixMulBig_row_tie rfl ⟨rfl, rfl⟩ main_is rfl
    (fun f fn hf hfn => by
      obtain rfl : f = 10 := Option.some.inj ((show Tryz.prog.funcNamed "given.example/pub-alexandrine/laws.FnFixMulBig" = some 10 by kernel_rfl).symm.trans hf) |>.symm
      obtain rfl : fn = Tryz.f10 := (Option.some.inj (Tryz.func10.symm.trans hfn)).symm
      exact ⟨looks_no, fun j t ht => by
        rw [Tryz.params10] at ht
        have hm : t ∈ [24, 24, 3] := by simpa using Array.mem_of_getElem? ht
        have hall : ([24, 24, 3].all fun u => !Tryz.prog.wantsStandIn u) = true := by kernel_rfl
        exact (show Tryz.prog.wantsStandIn t = false by simpa using List.all_eq_true.1 hall t hm)⟩)
    fnFixMulBig_goes
#print axioms fnFixMulBig_card_holds

end Go.Proofs.YtjdfapoomjeabaaGreatDoor
