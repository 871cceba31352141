/- The quotient of two decimals is the nearest decimal, or an error; by 0 there is an error: for all decimals. The condition: the listed package variables hold what the program's text lays. -/
import Derived.Test.YtmgidnjpkbgmgabGreatDoorRowQuoBZ
import Derived.Test.YtmgidnjpkbgmgabGreatDoorRowQuoCZ
import Derived.Test.YtmgidnjpkbgmgabGreatDoorK7
import Derived.Test.YtmgidnjpkbgmgabGreatDoorTie
import Derived.Test.YtmgidnjpkbgmgabGreatDoorCards
import Derived.SevenTiedAt
namespace Go.Proofs.YtmgidnjpkbgmgabGreatDoor
open Go Go.ChangeShapes Go.WideShapes Go.ChangeAt Go.RowKit Go.Lib Go.Joins

theorem fnFixQuo_card_holds : Rows.FnFixQuoCardSaid :=
  Claim7.holds_tied_plain_at .later [] [.data, .data, .data, .data, .data, .data, .data, .sentinel, .sentinel, .sentinel, .data] true Rows.fnFixQuoCard.stood.harness false
    fnFixQuo_row_holds (fun _ h => by cases h) (by kernel_rfl) (fun _ h => by cases h) fnFixQuo_row_tie rfl ⟨rfl, rfl⟩ main_is rfl
    (fun f fn hf hfn => by
      obtain rfl : f = 8 := Option.some.inj ((show Tryz.prog.funcNamed "given.example/pub-alexandrine/laws.FnFixQuo" = some 8 by kernel_rfl).symm.trans hf) |>.symm
      obtain rfl : fn = Tryz.f8 := (Option.some.inj (Tryz.func8.symm.trans hfn)).symm
      exact ⟨looks_no, fun j t ht => by
        rw [Tryz.params8] at ht
        have hm : t ∈ [24, 24] := by simpa using Array.mem_of_getElem? ht
        have hall : ([24, 24].all fun u => !Tryz.prog.wantsStandIn u) = true := by kernel_rfl
        exact (show Tryz.prog.wantsStandIn t = false by simpa using List.all_eq_true.1 hall t hm)⟩)
    fnFixQuo_goes
#print axioms fnFixQuo_card_holds

end Go.Proofs.YtmgidnjpkbgmgabGreatDoor
