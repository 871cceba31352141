/- A quotient to so many places is cut off, and the remainder is what is left: for all decimals of at most 60 digits, with exponents from -60 to 60, and -100 to 100 places. The condition: the listed package variables hold what the program's text lays. -/
import Derived.Test.YtllencgncinphaaGreatDoorRowDecQuoRemBZ
import Derived.Test.YtllencgncinphaaGreatDoorRowDecQuoRemCZ
import Derived.Test.YtllencgncinphaaGreatDoorKB44
import Derived.Test.YtllencgncinphaaGreatDoorTie
import Derived.Test.YtllencgncinphaaGreatDoorCards
import Derived.SevenTiedAt
namespace Go.Proofs.YtllencgncinphaaGreatDoor
open Go Go.ChangeShapes Go.WideShapes Go.ChangeAt Go.RowKit Go.Lib Go.Joins

theorem fnDecQuoRem_card_holds : Rows.FnDecQuoRemCardSaid :=
  Claim7.holds_tied_plain_at .later [] [.data, .data, .data, .data, .data, .data] true Rows.fnDecQuoRemCard.stood.harness false
    fnDecQuoRem_row_holds (fun _ h => by cases h) (by kernel_rfl) (fun _ h => by cases h) fnDecQuoRem_row_tie rfl ⟨rfl, rfl⟩ main_is rfl
    (fun f fn hf hfn => by
      obtain rfl : f = 4 := Option.some.inj ((show Tryz.prog.funcNamed "given.example/pub-alexandrine/laws.FnDecQuoRem" = some 4 by kernel_rfl).symm.trans hf) |>.symm
      obtain rfl : fn = Tryz.f4 := (Option.some.inj (Tryz.func4.symm.trans hfn)).symm
      exact ⟨looks_no, fun j t ht => by
        rw [Tryz.params4] at ht
        have hm : t ∈ [23, 23, 3] := by simpa using Array.mem_of_getElem? ht
        have hall : ([23, 23, 3].all fun u => !Tryz.prog.wantsStandIn u) = true := by kernel_rfl
        exact (show Tryz.prog.wantsStandIn t = false by simpa using List.all_eq_true.1 hall t hm)⟩)
    fnDecQuoRem_goes
#print axioms fnDecQuoRem_card_holds

end Go.Proofs.YtllencgncinphaaGreatDoor
