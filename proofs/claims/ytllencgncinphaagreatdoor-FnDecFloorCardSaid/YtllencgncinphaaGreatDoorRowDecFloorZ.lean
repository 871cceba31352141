/- The greatest whole number not above a decimal and the least one not below it are those of its number: for all decimals of at most 60 digits, with exponents from -60 to 60. The condition: the listed package variables hold what the program's text lays. -/
import Derived.Test.YtllencgncinphaaGreatDoorRowDecFloorBZ
import Derived.Test.YtllencgncinphaaGreatDoorRowDecFloorCZ
import Derived.Test.YtllencgncinphaaGreatDoorKF48
import Derived.Test.YtllencgncinphaaGreatDoorTie
import Derived.Test.YtllencgncinphaaGreatDoorCards
import Derived.SevenTiedAt
namespace Go.Proofs.YtllencgncinphaaGreatDoor
open Go Go.ChangeShapes Go.WideShapes Go.ChangeAt Go.RowKit Go.Lib Go.Joins

theorem fnDecFloor_card_holds : Rows.FnDecFloorCardSaid :=
  Claim7.holds_tied_plain_at .later [] [.data, .data, .data, .data, .data, .data] true Rows.fnDecFloorCard.stood.harness false
    fnDecFloor_row_holds (fun _ h => by cases h) (by kernel_rfl) (fun _ h => by cases h) fnDecFloor_row_tie rfl ⟨rfl, rfl⟩ main_is rfl
    (fun f fn hf hfn => by
      obtain rfl : f = 7 := Option.some.inj ((show Tryz.prog.funcNamed "given.example/pub-alexandrine/laws.FnDecFloor" = some 7 by kernel_rfl).symm.trans hf) |>.symm
      obtain rfl : fn = Tryz.f7 := (Option.some.inj (Tryz.func7.symm.trans hfn)).symm
      exact ⟨looks_no, fun j t ht => by
        rw [Tryz.params7] at ht
        have hm : t ∈ [23] := by simpa using Array.mem_of_getElem? ht
        have hall : ([23].all fun u => !Tryz.prog.wantsStandIn u) = true := by kernel_rfl
        exact (show Tryz.prog.wantsStandIn t = false by simpa using List.all_eq_true.1 hall t hm)⟩)
    fnDecFloor_goes
#print axioms fnDecFloor_card_holds

end Go.Proofs.YtllencgncinphaaGreatDoor
