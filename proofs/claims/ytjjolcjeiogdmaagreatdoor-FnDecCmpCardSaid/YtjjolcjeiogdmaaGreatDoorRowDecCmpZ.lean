/- Two decimals compare as their numbers do: for all decimals of at most 60 digits, with exponents from -60 to 60. The condition: the listed package variables hold what the program's text lays. -/
import Derived.Test.YtjjolcjeiogdmaaGreatDoorRowDecCmpBZ
import Derived.Test.YtjjolcjeiogdmaaGreatDoorRowDecCmpCZ
import Derived.Test.YtjjolcjeiogdmaaGreatDoorK23
import Derived.Test.YtjjolcjeiogdmaaGreatDoorTie
import Derived.Test.YtjjolcjeiogdmaaGreatDoorCards
import Derived.SevenTiedAt
namespace Go.Proofs.YtjjolcjeiogdmaaGreatDoor
open Go Go.ChangeShapes Go.WideShapes Go.ChangeAt Go.RowKit Go.Lib Go.Joins

theorem fnDecCmp_card_holds : Rows.FnDecCmpCardSaid :=
  Claim7.holds_tied_plain_at .later [] [.data, .data, .data, .data, .data, .data] true Rows.fnDecCmpCard.stood.harness false
    fnDecCmp_row_holds (fun _ h => by cases h) (by kernel_rfl) (fun _ h => by cases h) fnDecCmp_row_tie rfl ⟨rfl, rfl⟩ main_is rfl
    (fun f fn hf hfn => by
      obtain rfl : f = 3 := Option.some.inj ((show Tryz.prog.funcNamed "given.example/pub-alexandrine/laws.FnDecCmp" = some 3 by kernel_rfl).symm.trans hf) |>.symm
      obtain rfl : fn = Tryz.f3 := (Option.some.inj (Tryz.func3.symm.trans hfn)).symm
      exact ⟨looks_no, fun j t ht => by
        rw [Tryz.params3] at ht
        have hm : t ∈ [23, 23] := by simpa using Array.mem_of_getElem? ht
        have hall : ([23, 23].all fun u => !Tryz.prog.wantsStandIn u) = true := by kernel_rfl
        exact (show Tryz.prog.wantsStandIn t = false by simpa using List.all_eq_true.1 hall t hm)⟩)
    fnDecCmp_goes
#print axioms fnDecCmp_card_holds

end Go.Proofs.YtjjolcjeiogdmaaGreatDoor
