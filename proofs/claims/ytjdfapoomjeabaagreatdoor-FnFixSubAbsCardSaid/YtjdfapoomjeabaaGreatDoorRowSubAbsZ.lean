/- The amount of the difference of two decimals is the nearest decimal, or an error: for all decimals. The condition: the listed package variables hold what the program's text lays. -/
import Derived.Test.YtjdfapoomjeabaaGreatDoorRowSubAbsBZ
import Derived.Test.YtjdfapoomjeabaaGreatDoorRowSubAbsCZ
import Derived.Test.YtjdfapoomjeabaaGreatDoorK7
import Derived.Test.YtjdfapoomjeabaaGreatDoorTie
import Derived.Test.YtjdfapoomjeabaaGreatDoorCards
import Derived.SevenTiedAt
namespace Go.Proofs.YtjdfapoomjeabaaGreatDoor
open Go Go.ChangeShapes Go.WideShapes Go.ChangeAt Go.RowKit Go.Lib Go.Joins

theorem fnFixSubAbs_card_holds : Rows.FnFixSubAbsCardSaid :=
  Claim7.holds_tied_plain_at .later [] [.data, .data, .data, .data, .data, .data, .data, .sentinel, .sentinel, .data] true Rows.fnFixSubAbsCard.stood.harness false
    fnFixSubAbs_row_holds (fun _ h => by cases h) (by kernel_rfl) (fun _ h => by cases h) fnFixSubAbs_row_tie rfl ⟨rfl, rfl⟩ main_is rfl
    (fun f fn hf hfn => by
      obtain rfl : f = 6 := Option.some.inj ((show Tryz.prog.funcNamed "given.example/pub-alexandrine/laws.FnFixSubAbs" = some 6 by kernel_rfl).symm.trans hf) |>.symm
      obtain rfl : fn = Tryz.f6 := (Option.some.inj (Tryz.func6.symm.trans hfn)).symm
      exact ⟨looks_no, fun j t ht => by
        rw [Tryz.params6] at ht
        have hm : t ∈ [24, 24] := by simpa using Array.mem_of_getElem? ht
        have hall : ([24, 24].all fun u => !Tryz.prog.wantsStandIn u) = true := by kernel_rfl
        exact (show Tryz.prog.wantsStandIn t = false by simpa using List.all_eq_true.1 hall t hm)⟩)
    fnFixSubAbs_goes
#print axioms fnFixSubAbs_card_holds

end Go.Proofs.YtjdfapoomjeabaaGreatDoor
