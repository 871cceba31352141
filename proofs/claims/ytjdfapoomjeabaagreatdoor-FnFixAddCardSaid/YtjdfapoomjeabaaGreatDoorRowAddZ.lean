/- The sum of two decimals is the decimal nearest to the sum of their numbers, half of the way to the even one, or an error: for all decimals. The condition: the listed package variables hold what the program's text lays. -/
import Derived.Test.YtjdfapoomjeabaaGreatDoorRowAddBZ
import Derived.Test.YtjdfapoomjeabaaGreatDoorRowAddCZ
import Derived.Test.YtjdfapoomjeabaaGreatDoorK7
import Derived.Test.YtjdfapoomjeabaaGreatDoorTie
import Derived.Test.YtjdfapoomjeabaaGreatDoorCards
import Derived.SevenTiedAt
namespace Go.Proofs.YtjdfapoomjeabaaGreatDoor
open Go Go.ChangeShapes Go.WideShapes Go.ChangeAt Go.RowKit Go.Lib Go.Joins

theorem fnFixAdd_card_holds : Rows.FnFixAddCardSaid :=
  Claim7.holds_tied_plain_at .later [] [.data, .data, .data, .data, .data, .data, .data, .sentinel, .sentinel, .data] true Rows.fnFixAddCard.stood.harness false
    fnFixAdd_row_holds (fun _ h => by cases h) (by kernel_rfl) (fun _ h => by cases h) fnFixAdd_row_tie rfl ⟨rfl, rfl⟩ main_is rfl
    (fun f fn hf hfn => by
      obtain rfl : f = 4 := Option.some.inj ((show Tryz.prog.funcNamed "given.example/pub-alexandrine/laws.FnFixAdd" = some 4 by kernel_rfl).symm.trans hf) |>.symm
      obtain rfl : fn = Tryz.f4 := (Option.some.inj (Tryz.func4.symm.trans hfn)).symm
      exact ⟨looks_no, fun j t ht => by
        rw [Tryz.params4] at ht
        have hm : t ∈ [24, 24] := by simpa using Array.mem_of_getElem? ht
        have hall : ([24, 24].all fun u => !Tryz.prog.wantsStandIn u) = true := by kernel_rfl
        exact (show Tryz.prog.wantsStandIn t = false by simpa using List.all_eq_true.1 hall t hm)⟩)
    fnFixAdd_goes
#print axioms fnFixAdd_card_holds

end Go.Proofs.YtjdfapoomjeabaaGreatDoor
