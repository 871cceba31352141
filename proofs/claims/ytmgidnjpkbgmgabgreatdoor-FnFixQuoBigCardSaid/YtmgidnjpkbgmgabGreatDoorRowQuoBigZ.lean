/- The quotient of two decimals by whole numbers of any length alone is the nearest decimal with at least so many places, or the fault that it has no room for them: for all decimals, the divisor not 0, and numbers of places. The condition: the listed package variables hold what the program's text lays. -/
import Derived.Test.YtmgidnjpkbgmgabGreatDoorRowQuoBigBZ
import Derived.Test.YtmgidnjpkbgmgabGreatDoorRowQuoBigCZ
import Derived.Test.YtmgidnjpkbgmgabGreatDoorKB7
import Derived.Test.YtmgidnjpkbgmgabGreatDoorTie
import Derived.Test.YtmgidnjpkbgmgabGreatDoorCards
import Derived.SevenTiedAt
namespace Go.Proofs.YtmgidnjpkbgmgabGreatDoor
open Go Go.ChangeShapes Go.WideShapes Go.ChangeAt Go.RowKit Go.Lib Go.Joins

theorem fnFixQuoBig_card_holds : Rows.FnFixQuoBigCardSaid :=
  Claim7.holds_tied_plain_at .later [] [.data, .data, .data, .data, .data, .data, .data, .sentinel, .sentinel, .data] true Rows.fnFixQuoBigCard.stood.harness false
    fnFixQuoBig_row_holds (fun _ h => by cases h) (by kernel_rfl) (fun _ h => by cases h) fnFixQuoBig_row_tie rfl ⟨rfl, rfl⟩ main_is rfl
    (fun f fn hf hfn => by
      obtain rfl : f = 7 := Option.some.inj ((show Tryz.prog.funcNamed "given.example/pub-alexandrine/laws.FnFixQuoBig" = some 7 by kernel_rfl).symm.trans hf) |>.symm
      obtain rfl : fn = Tryz.f7 := (Option.some.inj (Tryz.func7.symm.trans hfn)).symm
      exact ⟨looks_no, fun j t ht => by
        rw [Tryz.params7] at ht
        have hm : t ∈ [24, 24, 3] := by simpa using Array.mem_of_getElem? ht
        have hall : ([24, 24, 3].all fun u => !Tryz.prog.wantsStandIn u) = true := by kernel_rfl
        exact (show Tryz.prog.wantsStandIn t = false by simpa using List.all_eq_true.1 hall t hm)⟩)
    fnFixQuoBig_goes
#print axioms fnFixQuoBig_card_holds

end Go.Proofs.YtmgidnjpkbgmgabGreatDoor
