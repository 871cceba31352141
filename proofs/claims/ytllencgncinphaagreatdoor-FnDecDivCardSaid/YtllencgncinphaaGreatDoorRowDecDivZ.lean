/- A quotient is the nearest one with 16 places: for all decimals of at most 60 digits, with exponents from -60 to 60. The condition: the listed package variables hold what the program's text lays. -/
import Derived.Test.YtllencgncinphaaGreatDoorRowDecDivBZ
import Derived.Test.YtllencgncinphaaGreatDoorRowDecDivCZ
import Derived.Test.YtllencgncinphaaGreatDoorKE47
import Derived.Test.YtllencgncinphaaGreatDoorTie
import Derived.Test.YtllencgncinphaaGreatDoorCards
import Derived.SevenTiedAt
namespace Go.Proofs.YtllencgncinphaaGreatDoor
open Go Go.ChangeShapes Go.WideShapes Go.ChangeAt Go.RowKit Go.Lib Go.Joins

theorem fnDecDiv_card_holds : Rows.FnDecDivCardSaid :=
  Claim7.holds_tied_plain_at .later [] [.data, .data, .data, .data, .data, .data, .data] true Rows.fnDecDivCard.stood.harness false
    fnDecDiv_row_holds (fun _ h => by cases h) (by kernel_rfl) (fun _ h => by cases h) fnDecDiv_row_tie rfl ⟨rfl, rfl⟩ main_is rfl
    (fun f fn hf hfn => by
      obtain rfl : f = 9 := Option.some.inj ((show Tryz.prog.funcNamed "given.example/pub-alexandrine/laws.FnDecDiv" = some 9 by kernel_rfl).symm.trans hf) |>.symm
      obtain rfl : fn = Tryz.f9 := (Option.some.inj (Tryz.func9.symm.trans hfn)).symm
      exact ⟨looks_no, fun j t ht => by
        rw [Tryz.params9] at ht
        have hm : t ∈ [23, 23] := by simpa using Array.mem_of_getElem? ht
        have hall : ([23, 23].all fun u => !Tryz.prog.wantsStandIn u) = true := by kernel_rfl
        exact (show Tryz.prog.wantsStandIn t = false by simpa using List.all_eq_true.1 hall t hm)⟩)
    fnDecDiv_goes
#print axioms fnDecDiv_card_holds

end Go.Proofs.YtllencgncinphaaGreatDoor
