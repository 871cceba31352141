/- A decimal that is cut off has so many places: for all decimals of at most 60 digits, with exponents from -60 to 60, and -100 to 100 places. The condition: the listed package variables hold what the program's text lays. -/
import Derived.Test.YtllencgncinphaaGreatDoorRowDecTruncBZ
import Derived.Test.YtllencgncinphaaGreatDoorRowDecTruncCZ
import Derived.Test.YtllencgncinphaaGreatDoorK40
import Derived.Test.YtllencgncinphaaGreatDoorTie
import Derived.Test.YtllencgncinphaaGreatDoorCards
import Derived.SevenTiedAt
namespace Go.Proofs.YtllencgncinphaaGreatDoor
open Go Go.ChangeShapes Go.WideShapes Go.ChangeAt Go.RowKit Go.Lib Go.Joins

theorem fnDecTruncate_card_holds : Rows.FnDecTruncateCardSaid :=
  Claim7.holds_tied_plain_at .later [] [.data, .data, .data, .data, .data, .data] true Rows.fnDecTruncateCard.stood.harness false
    fnDecTruncate_row_holds (fun _ h => by cases h) (by kernel_rfl) (fun _ h => by cases h) fnDecTruncate_row_tie rfl ⟨rfl, rfl⟩ main_is rfl
    (fun f fn hf hfn => by
      obtain rfl : f = 6 := Option.some.inj ((show Tryz.prog.funcNamed "given.example/pub-alexandrine/laws.FnDecTruncate" = some 6 by kernel_rfl).symm.trans hf) |>.symm
      obtain rfl : fn = Tryz.f6 := (Option.some.inj (Tryz.func6.symm.trans hfn)).symm
      exact ⟨looks_no, fun j t ht => by
        rw [Tryz.params6] at ht
        have hm : t ∈ [23, 3] := by simpa using Array.mem_of_getElem? ht
        have hall : ([23, 3].all fun u => !Tryz.prog.wantsStandIn u) = true := by kernel_rfl
        exact (show Tryz.prog.wantsStandIn t = false by simpa using List.all_eq_true.1 hall t hm)⟩)
    fnDecTruncate_goes
#print axioms fnDecTruncate_card_holds

end Go.Proofs.YtllencgncinphaaGreatDoor
