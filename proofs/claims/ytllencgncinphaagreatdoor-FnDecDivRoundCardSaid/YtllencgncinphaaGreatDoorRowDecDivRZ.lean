/- A quotient that is rounded to so many places is the nearest one: for all decimals of at most 60 digits, with exponents from -60 to 60, and -100 to 100 places. The condition: the listed package variables hold what the program's text lays. -/
import Derived.Test.YtllencgncinphaaGreatDoorRowDecDivRBZ
import Derived.Test.YtllencgncinphaaGreatDoorRowDecDivRCZ
import Derived.Test.YtllencgncinphaaGreatDoorKC47
import Derived.Test.YtllencgncinphaaGreatDoorTie
import Derived.Test.YtllencgncinphaaGreatDoorCards
import Derived.SevenTiedAt
namespace Go.Proofs.YtllencgncinphaaGreatDoor
open Go Go.ChangeShapes Go.WideShapes Go.ChangeAt Go.RowKit Go.Lib Go.Joins

theorem fnDecDivRound_card_holds : Rows.FnDecDivRoundCardSaid :=
  Claim7.holds_tied_plain_at .later [] [.data, .data, .data, .data, .data, .data] true Rows.fnDecDivRoundCard.stood.harness false
    fnDecDivRound_row_holds (fun _ h => by cases h) (by kernel_rfl) (fun _ h => by cases h) fnDecDivRound_row_tie rfl ⟨rfl, rfl⟩ main_is rfl
    (fun f fn hf hfn => by
      obtain rfl : f = 8 := Option.some.inj ((show Tryz.prog.funcNamed "given.example/pub-alexandrine/laws.FnDecDivRound" = some 8 by kernel_rfl).symm.trans hf) |>.symm
      obtain rfl : fn = Tryz.f8 := (Option.some.inj (Tryz.func8.symm.trans hfn)).symm
      exact ⟨looks_no, fun j t ht => by
        rw [Tryz.params8] at ht
        have hm : t ∈ [23, 23, 3] := by simpa using Array.mem_of_getElem? ht
        have hall : ([23, 23, 3].all fun u => !Tryz.prog.wantsStandIn u) = true := by kernel_rfl
        exact (show Tryz.prog.wantsStandIn t = false by simpa using List.all_eq_true.1 hall t hm)⟩)
    fnDecDivRound_goes
#print axioms fnDecDivRound_card_holds

end Go.Proofs.YtllencgncinphaaGreatDoor
