/- The product of two decimals with places that have to be kept is the nearest decimal with at least so many places, or an error: for all decimals and numbers of places. The condition: the listed package variables hold what the program's text lays. -/
import Derived.Test.YtjdfapoomjeabaaGreatDoorRowMulExactBZ
import Derived.Test.YtjdfapoomjeabaaGreatDoorRowMulExactCZ
import Derived.Test.YtjdfapoomjeabaaGreatDoorK7
import Derived.Test.YtjdfapoomjeabaaGreatDoorTie
import Derived.Test.YtjdfapoomjeabaaGreatDoorCards
import Derived.SevenTiedAt
namespace Go.Proofs.YtjdfapoomjeabaaGreatDoor
open Go Go.ChangeShapes Go.WideShapes Go.ChangeAt Go.RowKit Go.Lib Go.Joins

theorem fnFixMulExact_card_holds : Rows.FnFixMulExactCardSaid :=
  Claim7.holds_tied_plain_at .later [] [.data, .data, .data, .data, .data, .data, .data, .sentinel, .sentinel, .data] true Rows.fnFixMulExactCard.stood.harness false
    fnFixMulExact_row_holds (fun _ h => by cases h) (by kernel_rfl) (fun _ h => by cases h) fnFixMulExact_row_tie rfl ⟨rfl, rfl⟩ main_is rfl
    (fun f fn hf hfn => by
      obtain rfl : f = 12 := Option.some.inj ((show Tryz.prog.funcNamed "given.example/pub-alexandrine/laws.FnFixMulExact" = some 12 by kernel_rfl).symm.trans hf) |>.symm
      obtain rfl : fn = Tryz.f12 := (Option.some.inj (Tryz.func12.symm.trans hfn)).symm
      exact ⟨looks_no, fun j t ht => by
        rw [Tryz.params12] at ht
        have hm : t ∈ [24, 24, 3] := by simpa using Array.mem_of_getElem? ht
        have hall : ([24, 24, 3].all fun u => !Tryz.prog.wantsStandIn u) = true := by kernel_rfl
        exact (show Tryz.prog.wantsStandIn t = false by simpa using List.all_eq_true.1 hall t hm)⟩)
    fnFixMulExact_goes
#print axioms fnFixMulExact_card_holds

end Go.Proofs.YtjdfapoomjeabaaGreatDoor
